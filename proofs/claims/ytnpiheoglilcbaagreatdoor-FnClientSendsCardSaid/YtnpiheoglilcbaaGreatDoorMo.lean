/- What a client sends. No condition. -/
import Derived.Test.YtnpiheoglilcbaaGreatDoorMg
import Derived.Test.YtnpiheoglilcbaaGreatDoorMm
import Derived.Test.YtnpiheoglilcbaaGreatDoorMl
/-! Protocols over a memory buffer are flushed: nothing happens. -/
namespace Go.Proofs.YtnpiheoglilcbaaGreatDoor
open Go.RowKit Go.Deep
set_option linter.unusedVariables false
set_option linter.unusedSimpArgs false

set_option maxRecDepth 100000 in
theorem bw_flush {p m : Nat} {og cf : Value} {c : Cfg} {S : List Nat} {l : List UInt8} {w : World} (h : BW p m og cf c S l w) (cx : Value) :
    Calls Tryz.prog 182 #[.pointer (some ⟨p, 0, none⟩), cx] w (Did (BW p m og cf c) S w (l, 0)) := by
  have HI := Lib.hid h
  obtain ⟨b, g, sc, K, rfl, hp, hm, hC, -⟩ := h
  have c0 : w.cell? ⟨p, 0, none⟩ = some (memV m) := by rw [hp.cells]; rfl
  have hmeth := mem_Flush
  clear hp hm hC
  go_enter Tryz.func182, Tryz.ntmps182
  go_wp2_with (first | (go_at_call 86; go_in) | (go_at_call 149; go_in))
  all_goals go_ret
  all_goals exact ⟨_, _, rfl, IsErr.nil _, HI.out, Step.refl _ _⟩

set_option maxRecDepth 100000 in
theorem cp_flush {p m : Nat} {og cf : Value} {c : Cfg} {S : List Nat} {st : CSt} {l : List UInt8} {w : World} (h : CP p m og cf c 0 S st l w) (cx : Value) :
    Calls Tryz.prog 101 #[.pointer (some ⟨p, 0, none⟩), cx] w (Did (CIs p m og cf c) S w ((st, l), 0)) := by
  have HI := Lib.hid h
  obtain ⟨b, g, r, K, lf, nm, sc, rfl, hp, hm, hC, -⟩ := h
  have c0 : w.cell? ⟨p, 0, none⟩ = some (memV m) := by rw [hp.cells]; rfl
  have hmeth := mem_Flush
  clear hp hm hC
  go_enter Tryz.func101, Tryz.ntmps101
  go_wp2_with (first | (go_at_call 86; go_in) | (go_at_call 149; go_in))
  all_goals go_ret
  all_goals exact ⟨_, _, rfl, IsErr.nil _, HI.out, Step.refl _ _⟩

/-- A protocol that may be flushed. -/
def Flushes (P : PW) : Prop := ∃ f : FuncId, (∀ (k : Nat) (w : World), (method (k + 1) P.ty P.ptr "Flush").run Tryz.prog w = .ok (f, P.ptr) w) ∧ (∀ (k : Nat) (w : World), (nilAhead (k + 1) P.ty P.ptr "Flush").run Tryz.prog w = .ok (some false) w) ∧ (∀ (args : Array Value) (w : World), (callFunc f args).run Tryz.prog w = .ok (.enter f args) w) ∧
  ∀ {S s w}, P.Is S s w → Calls Tryz.prog f #[P.ptr, ctxV] w (Did P.Is S w (s, 0))

theorem bin_flushes (p m : Nat) (og cf : Value) (c : Cfg) : Flushes (PBin p m og cf c) :=
  ⟨182, fun k w => by kernel_rfl, fun k w => by kernel_rfl, fun args w => by kernel_rfl, fun h => bw_flush h ctxV⟩

theorem cmp_flushes (p m : Nat) (og cf : Value) (c : Cfg) : Flushes (PCmp p m og cf c) :=
  ⟨101, fun k w => by kernel_rfl, fun k w => by kernel_rfl, fun args w => by kernel_rfl, fun {S s w} h => by
    obtain ⟨s, l⟩ := s
    obtain ⟨⟨bv, bn, h1⟩, ok⟩ := h
    exact toC (cp_flush h1 ctxV) ⟨rfl, rfl, rfl, rfl⟩ rfl ok⟩

/-- A protocol that is made over a new memory buffer: it may be flushed, too. -/
theorem protocol_F (proto : Int) (plain rb sb : Bool) (ms ct fr : Int) (m b : Nat) (w : World) (hM : Mem m b b 0 [] w) :
    Calls Tryz.prog 27 #[confV proto plain rb sb ms ct fr, memV m] w fun e w' => ∃ (O : OverMem m) (S : List Nat), e = .returned (.iface O.P.ty O.P.ptr) ∧ (∀ l, O.enc l = encC proto (cfgOf plain rb sb ms ct fr) l) ∧ O.P.Is S O.s0 w' ∧
      (∀ k, k ∈ S → k = m ∨ k = b ∨ w.heap.size ≤ k) ∧ Below w.heap.size w w' ∧ Flushes O.P := by
  have hml := hM.lt
  have hbl := hM.2.2.2.lt.1
  by_cases hpr : proto = 1
  · subst hpr
    refine (protocol_cmpC plain rb sb ms ct fr m w).mono ?_
    rintro e w' ⟨p, cf, K, sc, rfl, hp, hP, hC, hK, hB⟩
    have hM' := Mem.step hM (Step.ofBelow (S := []) hB) (by simp) (by simp) (by simp)
    refine ⟨OCmp p m (memV m) cf (cfgOf plain rb sb ms ct fr), p :: m :: b :: b :: p :: K, rfl, fun l => by rw [OCmp_enc, encC, if_pos rfl], ⟨⟨false, false, b, b, p, K, .slice none 0 0, .string ByteArray.empty, sc, rfl, hP, hM', hC, .inl ⟨rfl, rfl, rfl⟩, by omega, by omega, fun k hk => ?_⟩, okW_0⟩, fun k hk => ?_, hB, cmp_flushes _ _ _ _ _⟩
    · have := hK k hk
      omega
    · simp only [List.mem_cons] at hk
      rcases hk with rfl | rfl | rfl | rfl | rfl | hk
      · exact .inr (.inr hp)
      · exact .inl rfl
      · exact .inr (.inl rfl)
      · exact .inr (.inl rfl)
      · exact .inr (.inr hp)
      · exact .inr (.inr (hK k hk).1)
  · refine (protocol_binC proto hpr plain rb sb ms ct fr m w).mono ?_
    rintro e w' ⟨p, cf, K, sc, rfl, hp, hP, hC, hK, hB⟩
    have hM' := Mem.step hM (Step.ofBelow (S := []) hB) (by simp) (by simp) (by simp)
    refine ⟨OBin p m (memV m) cf (cfgOf plain rb sb ms ct fr), p :: m :: b :: b :: K, rfl, fun l => by rw [OBin_enc, encC, if_neg hpr], ⟨b, b, sc, K, rfl, hP, hM', hC, by omega, by omega, by omega, fun k hk => ?_⟩, fun k hk => ?_, hB, bin_flushes _ _ _ _ _⟩
    · have := hK k hk
      omega
    · simp only [List.mem_cons] at hk
      rcases hk with rfl | rfl | rfl | rfl | hk
      · exact .inr (.inr hp)
      · exact .inl rfl
      · exact .inr (.inl rfl)
      · exact .inr (.inl rfl)
      · exact .inr (.inr (hK k hk).1)

end Go.Proofs.YtnpiheoglilcbaaGreatDoor

/-! A client sends its arguments by a protocol, whichever it is. -/
namespace Go.Proofs.YtnpiheoglilcbaaGreatDoor
open Go.RowKit Go.Deep Go.Proofs.YtnpiheoglilcbaaGreatDoorW.PrintWords
set_option linter.unusedVariables false
set_option linter.unusedSimpArgs false

theorem Box7.step {b : Nat} {x0 x1 x2 x3 x4 x5 x6 : Value} {S T : List Nat} {Wa W : World} (h : Box7 b x0 x1 x2 x3 x4 x5 x6 Wa) (hs : Step S T Wa W) (hl : b < Wa.heap.size) (hn : b ∉ S) : Box7 b x0 x1 x2 x3 x4 x5 x6 W := by
  obtain ⟨p0, p1, p2, p3, p4, p5, p6⟩ := h
  have e0 : ∀ i, W.cell? ⟨b, i, none⟩ = Wa.cell? ⟨b, i, none⟩ := fun i => hs.cell (p := ⟨b, i, none⟩) hl hn
  exact ⟨(e0 0).trans p0, (e0 1).trans p1, (e0 2).trans p2, (e0 3).trans p3, (e0 4).trans p4, (e0 5).trans p5, (e0 6).trans p6⟩

/-- A struct that is handed to a client: its value's cells, and a depth. -/
abbrev bodyV (b : Nat) : Value := .iface 81 (.pointer (some ⟨b, 0, none⟩))

theorem body_Write (k b : Nat) (w : World) : (method (k + 1) 81 (.pointer (some ⟨b, 0, none⟩)) "Write").run Tryz.prog w = .ok (99, .pointer (some ⟨b, 0, none⟩)) w := by kernel_rfl
theorem body_nil (k b : Nat) (w : World) : (nilAhead (k + 1) 81 (.pointer (some ⟨b, 0, none⟩)) "Write").run Tryz.prog w = .ok (some false) w := by kernel_rfl

set_option maxRecDepth 100000 in
set_option maxHeartbeats 1000000 in
theorem body_put (P : PW) (w0 : World) (V : Val) (hw : wfV V) (S : List Nat) (s1 s2 : P.σ) (e2 : runs P.run (ops V) s1 = (s2, 0)) (b : Nat) (x0 x1 x2 x3 x4 x5 x6 : Value) (w : World) (hI : P.Is S s1 w) (hS : ∀ k, k ∈ S → w0.heap.size ≤ k) (hB : Below w0.heap.size w0 w) (hK : kVal.K w0 V [x0, x1, x2, x3, x4, x5, x6]) (hr : P.room s1 + costs (ops V) ≤ 140737488355328)
    (hb : Box7 b x0 x1 x2 x3 x4 x5 x6 w) (cx : Value) :
    Calls Tryz.prog 99 #[.pointer (some ⟨b, 0, none⟩), cx, .iface P.ty P.ptr] w (Did P.Is S w (s2, 0)) := by
  have hP := put_any P w0 V hw S s1 w _ hI hS hB hK hr
  rw [e2] at hP
  have HP := Lib.hid hP
  obtain ⟨p0, p1, p2, p3, p4, p5, p6⟩ := hb
  clear hP hI hS hB hK hr e2
  go_enter Tryz.func99, Tryz.ntmps99
  go_wp2_with (fail)
  refine HP.out.mono ?_
  rintro e W1 ⟨ev, S1, rfl, he, h1, s1⟩
  go_wp2
  go_ret
  exact ⟨_, _, rfl, he, h1, s1⟩

set_option maxRecDepth 100000 in
set_option maxHeartbeats 1000000 in
theorem client_send (P : PW) (hfl : Flushes P) (w0 : World) (V : Val) (hw : wfV V) (S : List Nat) (s0 s1 s2 s3 : P.σ) (nm : List UInt8) (seq : Int) (hn : nm.length ≤ 2147483647) (hs : -2147483648 ≤ seq ∧ seq < 2147483648) (e1 : P.run s0 (.msgB nm 1 seq) = (s1, 0)) (e2 : runs P.run (ops V) s1 = (s2, 0)) (e3 : P.run s2 .msgE = (s3, 0))
    (b : Nat) (x0 x1 x2 x3 x4 x5 x6 : Value) (w : World) (hI : P.Is S s0 w) (hS : ∀ k, k ∈ S → w0.heap.size ≤ k) (hB : Below w0.heap.size w0 w) (hK : kVal.K w0 V [x0, x1, x2, x3, x4, x5, x6]) (hr : P.room s0 + costs (opsM nm 1 seq V) ≤ 140737488355328)
    (hb : Box7 b x0 x1 x2 x3 x4 x5 x6 w) (hbS : b ∉ S) (hbl : b < w.heap.size) (cl : Value) :
    Calls Tryz.prog 36 #[cl, ctxV, .iface P.ty P.ptr, .int .i32 seq, strV nm, bodyV b] w (Did P.Is S w (s3, 0)) := by
  obtain ⟨ff, hf1, hf2, hf3, hf4⟩ := hfl
  have g1 := P.grow s0 (.msgB nm 1 seq)
  rw [e1] at g1
  have g2 := P.grows (ops V) s1
  rw [e2] at g2
  dsimp only at g1 g2
  have hcosts : costs (opsM nm 1 seq V) = WOp.cost (.msgB nm 1 seq) + (costs (ops V) + 32) := by
    simp only [opsM, costs_cons, costs_append, costs_nil]; rfl
  rw [hcosts] at hr
  have hO1 := P.does hI (.msgB nm 1 seq) rfl ⟨hn, by omega, hs⟩ (by omega)
  rw [e1] at hO1
  have HO1 := Lib.hid (show Calls Tryz.prog (P.fn "WriteMessageBegin") #[P.ptr, ctxV, strV nm, .int .i32 1, .int .i32 seq] w (Did P.Is S w (s1, 0)) from hO1)
  have HO2 := Lib.hid (fun S W hI hS hB hb => body_put P w0 V hw S s1 s2 e2 b x0 x1 x2 x3 x4 x5 x6 W hI hS hB hK (by omega) hb ctxV)
  have hO3 : ∀ {S W}, P.Is S s2 W → Calls Tryz.prog (P.fn "WriteMessageEnd") #[P.ptr, ctxV] W (Did P.Is S W (s3, 0)) := fun {S W} hI => by
    have := P.does hI .msgE rfl trivial (by show P.room s2 + 32 ≤ _; omega)
    rw [e3] at this
    exact this
  have HO3 := Lib.hid (fun S W => @hO3 S W)
  have HO4 := Lib.hid (fun S W => @hf4 S s3 W)
  have HS := Lib.hid hS
  have HB := Lib.hid hB
  have HX := Lib.hid hb
  obtain ⟨hm1, hm2, hm3⟩ := P.m_msgB
  obtain ⟨hk1, hk2, hk3⟩ := P.m_msgE
  have hw1 := body_Write
  have hw2 := body_nil
  clear hO1 hO3 hf4 hI hS hB hK hr hb e1 e2 e3 g1 g2 hcosts
  go_enter Tryz.func36, Tryz.ntmps36
  go_wp2_with (fail)
  refine HO1.out.mono ?_
  rintro e W1 ⟨ev, S1, rfl, he, h1, t1⟩
  obtain rfl := he.zero
  have hS1 : ∀ k, k ∈ S1 → w0.heap.size ≤ k := fun k hk => by
    rcases t1.own k hk with h | h
    · exact HS.out k h
    · have := HB.out.size; omega
  have hB1 : Below w0.heap.size w0 W1 := HB.out.trans (t1.below w0.heap.size HB.out.size HS.out)
  have hX1 := HX.out.step t1 hbl hbS
  have HC2 := Lib.hid (HO2.out S1 W1 h1 hS1 hB1 hX1)
  clear he h1 hX1
  go_wp2_with (fail)
  refine HC2.out.mono ?_
  rintro e W2 ⟨ev, S2, rfl, he, h2, t2⟩
  obtain rfl := he.zero
  have HC3 := Lib.hid (HO3.out S2 W2 h2)
  clear he h2
  go_wp2_with (fail)
  refine HC3.out.mono ?_
  rintro e W3 ⟨ev, S3, rfl, he, h3, t3⟩
  obtain rfl := he.zero
  have HC4 := Lib.hid (HO4.out S3 W3 h3)
  clear he h3
  go_wp2_with (fail)
  refine HC4.out.mono ?_
  rintro e W4 ⟨ev, S4, rfl, he, h4, t4⟩
  go_wp2
  go_ret
  exact ⟨_, _, rfl, he, h4, t1.trans (t2.trans (t3.trans t4))⟩

end Go.Proofs.YtnpiheoglilcbaaGreatDoor

/-! A client sends a call over a new memory buffer, whatever the configuration, by both protocols. -/
namespace Go.Proofs.YtnpiheoglilcbaaGreatDoor
open Go.RowKit Go.Deep Go.Proofs.YtnpiheoglilcbaaGreatDoorW.PrintWords
set_option linter.unusedVariables false
set_option linter.unusedSimpArgs false

theorem Box7.at8 {b : Nat} {x0 x1 x2 x3 x4 x5 x6 d : Value} {t : TypeId} {f : Nat × Nat} {W : World} (h : W.heap[b]? = some (.cells #[x0, x1, x2, x3, x4, x5, x6, d] t f)) : Box7 b x0 x1 x2 x3 x4 x5 x6 W :=
  ⟨(cell_heap h 0).trans rfl, (cell_heap h 1).trans rfl, (cell_heap h 2).trans rfl, (cell_heap h 3).trans rfl, (cell_heap h 4).trans rfl, (cell_heap h 5).trans rfl, (cell_heap h 6).trans rfl⟩

theorem alloc_lt (W : World) (o : Obj) : W.heap.size < (W.alloc o).heap.size := by simp

theorem newClient (ty : TypeId) (v : Value) (w : World) : Calls Tryz.prog 35 #[.iface ty v, .iface ty v] w fun e w' => (∃ k, e = .returned (.pointer (some ⟨k, 0, none⟩))) ∧ Below w.heap.size w w' := by
  go_enter Tryz.func35, Tryz.ntmps35
  go_wp2
  go_ret
  exact ⟨⟨_, rfl⟩, (Below.refl _ _).alloc (Nat.le_refl _) _⟩

set_option maxRecDepth 100000 in
set_option maxHeartbeats 1000000 in
theorem Send_C (V : Val) (hw : wfV V) (proto : Int) (plain rb sb : Bool) (ms ct fr : Int) (A : Option Addr) (cp : Nat) (nm : List Int) (seq : Int) (x0 x1 x2 x3 x4 x5 x6 : Value) (w : World) (hK : kVal.K w V [x0, x1, x2, x3, x4, x5, x6]) (hA : (Kd.int .u8).C w A nm.length nm) (hn : nm.length ≤ 2147483647) (hs : -2147483648 ≤ seq ∧ seq < 2147483648)
    (hr : costs (opsM (toB nm) 1 seq V) ≤ 70368744177664) (h0 : (encC proto (cfgOf plain rb sb ms ct fr) (opsM (toB nm) 1 seq V)).2 = 0) :
    Calls Tryz.prog 19 #[confV proto plain rb sb ms ct fr, .int .i32 seq, .slice A nm.length cp, .agg #[x0, x1, x2, x3, x4, x5, x6]] w fun e w' => ∃ v k, e = .returned (.tuple #[v, .int .i64 0]) ∧ w.heap.size ≤ k ∧ IsB (Lib.byteCells (encC proto (cfgOf plain rb sb ms ct fr) (opsM (toB nm) 1 seq V)).1) v k w' ∧ Below w.heap.size w w' := by
  have HKV := Lib.hid hK
  have HAV := Lib.hid hA
  have HBX := Lib.hid (fun W h => @boxes_at w (.int .i64 proto) (.bool plain) (.bool rb) (.bool sb) (.int .i32 ms) (.int .i32 ct) (.int .i32 fr) x0 x1 x2 x3 x4 x5 x6 23 28 W h)
  have HPR := Lib.hid (fun m b W => protocol_F proto plain rb sb ms ct fr m b W)
  have H0 := Lib.hid h0
  clear hK h0 hA
  go_enter Tryz.func19, Tryz.ntmps19
  go_wp2_with (go_at_call 25; refine (newMem _).mono ?_)
  rintro e W1 ⟨m, b, rfl, hm, hb, hM, hB⟩
  replace hm : w.heap.size + 1 + 1 ≤ m := by simpa using hm
  replace hb : w.heap.size + 1 + 1 ≤ b := by simpa using hb
  rw [show ∀ (x y : Obj), ((w.alloc x).alloc y).heap.size = w.heap.size + 1 + 1 from fun x y => by simp] at hB
  have hw1 : Below w.heap.size w W1 := (((Below.refl _ w).alloc (Nat.le_refl _) _).alloc (by simp) _).trans (hB.mono (by omega))
  have HM := Lib.hid hM
  have HB := Lib.hid hB
  have HW1 := Lib.hid hw1
  have hml := hM.lt
  have hbl := hM.2.2.2.lt.1
  have hbs := hB.size
  simp at hbs
  clear hM hB hw1
  obtain ⟨⟨p0, p1, p2, p3, p4, p5, p6⟩, q0, q1, q2, q3, q4, q5, q6⟩ := HBX.out W1 HB.out
  have hc := ctx_any
  go_wp2_with (fail)
  refine (HPR.out m b W1 HM.out).mono ?_
  rintro e W2 ⟨O, S2, rfl, hE2, hI2, hS2, hB2, hfl⟩
  clear p0 p1 p2 p3 p4 p5 p6 q0 q1 q2 q3 q4 q5 q6
  have HB2 := Lib.hid (HB.out.trans (hB2.mono hbs))
  have HW2 := Lib.hid (show Below w.heap.size w W2 from HW1.out.trans (hB2.mono (by omega)))
  have hown : ∀ k, k ∈ S2 → w.heap.size + 1 + 1 ≤ k := fun k hk => by rcases hS2 k hk with h | h | h; omega; omega; exact Nat.le_trans hbs h
  have hh := hE2 (opsM (toB nm) 1 seq V)
  unfold OverMem.enc at hh
  obtain ⟨P, s0, bytes, mem, room0⟩ := O
  dsimp only at hh hI2 hfl ⊢
  obtain ⟨R, hRe⟩ : ∃ R, runs P.run (opsM (toB nm) 1 seq V) s0 = R := ⟨_, rfl⟩
  rw [hRe] at hh
  have hR : R.2 = 0 := (congrArg Prod.snd hh).trans H0.out
  have HRb := Lib.hid (show bytes R.1 = (encC proto (cfgOf plain rb sb ms ct fr) (opsM (toB nm) 1 seq V)).1 from congrArg Prod.fst hh)
  have z1 : (P.run s0 (.msgB (toB nm) 1 seq)).2 = 0 := by
    by_cases hz : (P.run s0 (.msgB (toB nm) 1 seq)).2 = 0
    · exact hz
    · have := runs_bad P.run _ _ _ hRe hz
      rw [this]; exact hR
  have r1 := runs_ok P.run _ _ _ hRe z1
  have g1 := P.grow s0 (.msgB (toB nm) 1 seq)
  obtain ⟨s1, hs1⟩ : ∃ s1, (P.run s0 (.msgB (toB nm) 1 seq)).1 = s1 := ⟨_, rfl⟩
  rw [hs1] at r1 g1
  have e1 : P.run s0 (.msgB (toB nm) 1 seq) = (s1, 0) := Prod.ext hs1 z1
  have z2 : (runs P.run (ops V) s1).2 = 0 := by
    by_cases hz : (runs P.run (ops V) s1).2 = 0
    · exact hz
    · have := runs_bad_app P.run _ _ _ r1 hz
      rw [this]; exact hR
  have r2 := runs_ok_app P.run _ _ _ r1 z2
  have g2 := P.grows (ops V) s1
  obtain ⟨s2, hs2⟩ : ∃ s2, (runs P.run (ops V) s1).1 = s2 := ⟨_, rfl⟩
  rw [hs2] at r2 g2
  have e2 : runs P.run (ops V) s1 = (s2, 0) := Prod.ext hs2 z2
  have e3 : P.run s2 .msgE = R := (runs_one P.run .msgE s2).symm.trans r2
  have hcosts : costs (opsM (toB nm) 1 seq V) = WOp.cost (.msgB (toB nm) 1 seq) + (costs (ops V) + 32) := by
    simp only [opsM, costs_cons, costs_append, costs_nil]; rfl
  rw [hcosts] at hr
  have HSEND := Lib.hid (fun bd W (hst : Step [] [] W2 W) (hb : Box7 bd x0 x1 x2 x3 x4 x5 x6 W) (h1 : W2.heap.size ≤ bd) (h2 : bd < W.heap.size) cl => client_send P hfl w V hw S2 s0 s1 s2 R.1 (toB nm) seq (by simpa [toB] using hn) hs e1 e2 (e3.trans (Prod.ext rfl hR)) bd x0 x1 x2 x3 x4 x5 x6 W (P.step hI2 hst (by simp)) (fun k hk => by have := hown k hk; omega) (HW2.out.trans (hst.below w.heap.size HW2.out.size (by simp))) HKV.out (by rw [room0, hcosts]; omega) hb (fun hm => by have := P.lt hI2 _ hm; omega) h2 cl)
  have HOWN := Lib.hid hown
  have HMEM := Lib.hid (fun S s w => @mem S s w)
  have hV : ∀ W, Below w.heap.size w W → (convert 24 9 (.slice A nm.length cp)).run Tryz.prog W = .ok (strV (toB nm)) W := fun W hW => Kd.C_string Tryz.underlying24 Tryz.underlying5 Tryz.underlying9 (Kd.C_below HAV.out hW)
  have HV := Lib.hid hV
  clear hB2 hI2 hS2 hE2 hown hh hRe z1 r1 g1 hs1 e1 z2 r2 g2 hs2 e2 e3 hcosts hr hV hR mem room0 hfl
  have hcl := newClient P.ty P.ptr
  have hvx : ∀ W, Below (w.heap.size + 1 + 1) W2 W → Box7 (w.heap.size + 1) x0 x1 x2 x3 x4 x5 x6 W ∧ (convert 24 9 (.slice A nm.length cp)).run Tryz.prog W = .ok (strV (toB nm)) W := fun W hW =>
    ⟨(HBX.out W (HB2.out.trans hW)).2, HV.out _ (HW2.out.trans (hW.mono (by omega)))⟩
  have HVX := Lib.hid hvx
  have hs2 : w.heap.size + 1 + 1 ≤ W2.heap.size := by have := HB2.out.size; simpa using this
  have HC0 := Lib.hid (show Below (w.heap.size + 1 + 1) W2 W2.drew from (Below.refl _ _).drew)
  clear hvx
  go_wp2_with (fail)
  go_region_held3 (fun W' => (W'.cell? ⟨w.heap.size + 1, 0, none⟩ = some x0 ∧ W'.cell? ⟨w.heap.size + 1, 1, none⟩ = some x1 ∧ W'.cell? ⟨w.heap.size + 1, 2, none⟩ = some x2 ∧ W'.cell? ⟨w.heap.size + 1, 3, none⟩ = some x3 ∧ W'.cell? ⟨w.heap.size + 1, 4, none⟩ = some x4 ∧ W'.cell? ⟨w.heap.size + 1, 5, none⟩ = some x5 ∧ W'.cell? ⟨w.heap.size + 1, 6, none⟩ = some x6) ∧ (convert 24 9 (.slice A nm.length cp)).run Tryz.prog W' = .ok (strV (toB nm)) W')
    (first | exact HVX.out _ HC0.out | exact HVX.out _ HC1.out | exact HVX.out _ (HC1.out.alloc (Nat.le_trans hs2 HC1.out.size) _) | exact HVX.out _ (HC0.out.alloc hs2 _) | exact HVX.out _ HC4.out)
    (first
      | (go_at_call 33; refine (hc _).mono ?_; rintro e w' ⟨rfl, rfl⟩)
      | (go_at_call 35; refine (hcl _).mono ?_; rintro e W3 ⟨⟨q, rfl⟩, hB3⟩; have HC3 := Lib.hid hB3; have HC1 := Lib.hid (show Below (w.heap.size + 1 + 1) W2 W3 from by first | exact HC0.out.trans (hB3.mono hs2) | exact (HC0.out.alloc hs2 _).trans (hB3.mono (by simp; omega))); clear hB3)
      | (go_at_call 36; refine (HSEND.out _ _ ?_ ?_ ?_ ?_ _).mono ?_; (first | exact (((Step.refl _ _).drew).trans (Step.ofBelow HC3.out)).alloc _ | exact (((Step.refl _ _).drew).alloc _).trans (Step.ofBelow HC3.out)); (first | exact Box7.at8 (heap_alloc_new _ _) | exact Box7.of (Wa := (W2.alloc (.cells #[x0, x1, x2, x3, x4, x5, x6, .int .i64 0] 83)).drew) (Box7.at8 (heap_alloc_new W2 _)) HC3.out (alloc_lt W2 _)); (first | exact HC3.out.size | exact Nat.le_refl _); (first | exact alloc_lt _ _ | exact Nat.lt_of_lt_of_le (alloc_lt W2 (.cells #[x0, x1, x2, x3, x4, x5, x6, .int .i64 0] 83)) HC3.out.size); rintro e W5 ⟨ev, S5, rfl, he5, hI5, hs5⟩; have HC4 := Lib.hid (show Below (w.heap.size + 1 + 1) W2 W5 from by first | exact (HC1.out.alloc (Nat.le_trans hs2 HC1.out.size) _).trans (hs5.below _ (Nat.le_trans (Nat.le_trans hs2 HC1.out.size) (Nat.le_of_lt (alloc_lt _ _))) HOWN.out) | exact HC1.out.trans (hs5.below _ (Nat.le_trans hs2 HC1.out.size) HOWN.out)); have HO5 := Lib.hid (show ∀ k, k ∈ S5 → w.heap.size ≤ k from fun k hk => by rcases hs5.own k hk with h | h; have := HOWN.out k h; omega; have h1 := HC1.out.size; (first | (have h2 := Nat.le_trans (Nat.le_of_lt (alloc_lt _ _)) h; omega) | omega)); clear hs5))
  all_goals (
    obtain rfl := he5.zero
    obtain ⟨b3, g3, hM3, -, -, hg3⟩ := HMEM.out S5 R.1 _ hI5
    rw [HRb.out] at hM3
    have hgo : w.heap.size ≤ g3 := HO5.out g3 hg3
    have hbw := HW2.out.trans (HC4.out.mono (show w.heap.size ≤ w.heap.size + 1 + 1 by omega))
    have HM3 := Lib.hid hM3
    have HBW := Lib.hid hbw
    have cm3 := hM3.cell
    clear he5 hM3 hg3 hbw hI5
    go_wp2_with (go_at_call 28; refine (buf_bytes b3 g3 _ _ HM3.out.2.2.2).mono ?_)
    rintro e W6 ⟨v, rfl, hv, n, rfl⟩
    go_wp2_with (go_at_call 29; refine (kind_nil _).mono ?_; rintro e w' ⟨rfl, rfl⟩)
    go_ret2
    exact ⟨v, g3, rfl, hgo, hv, below_drewN HBW.out n⟩)

end Go.Proofs.YtnpiheoglilcbaaGreatDoor

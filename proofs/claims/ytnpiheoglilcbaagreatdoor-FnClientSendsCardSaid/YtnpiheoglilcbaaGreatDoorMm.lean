/- Messages by both protocols. No condition. -/
import Derived.Test.YtnpiheoglilcbaaGreatDoorMg
import Derived.Test.YtnpiheoglilcbaaGreatDoorMc
import Derived.Test.YtnpiheoglilcbaaGreatDoorMk
/-! A message is put over a new memory buffer, whatever the configuration, by both protocols. -/
namespace Go.Proofs.YtnpiheoglilcbaaGreatDoor
open Go.RowKit Go.Deep Go.Proofs.YtnpiheoglilcbaaGreatDoorW.PrintWords
set_option linter.unusedVariables false
set_option linter.unusedSimpArgs false

/-- The calls of a message. -/
def opsM (nm : List UInt8) (t seq : Int) (V : Val) : List WOp := .msgB nm t seq :: (ops V ++ [.msgE])

set_option maxRecDepth 100000 in
set_option maxHeartbeats 1000000 in
theorem PutMessage_C (V : Val) (hw : wfV V) (proto : Int) (plain rb sb : Bool) (ms ct fr : Int) (A : Option Addr) (cp : Nat) (nm : List Int) (t seq : Int) (x0 x1 x2 x3 x4 x5 x6 : Value) (w : World) (hK : kVal.K w V [x0, x1, x2, x3, x4, x5, x6]) (hA : (Kd.int .u8).C w A nm.length nm) (hn : nm.length ≤ 2147483647) (hs : -2147483648 ≤ seq ∧ seq < 2147483648)
    (hr : costs (opsM (toB nm) (wrap32 t) seq V) ≤ 70368744177664) (h0 : (encC proto (cfgOf plain rb sb ms ct fr) (opsM (toB nm) (wrap32 t) seq V)).2 = 0) :
    Calls Tryz.prog 15 #[confV proto plain rb sb ms ct fr, .slice A nm.length cp, .int .i64 t, .int .i32 seq, .agg #[x0, x1, x2, x3, x4, x5, x6]] w fun e w' => ∃ v k, e = .returned (.tuple #[v, .int .i64 0]) ∧ w.heap.size ≤ k ∧ IsB (Lib.byteCells (encC proto (cfgOf plain rb sb ms ct fr) (opsM (toB nm) (wrap32 t) seq V)).1) v k w' ∧ Below w.heap.size w w' := by
  have HKV := Lib.hid hK
  have HAV := Lib.hid hA
  have HBX := Lib.hid (fun W h => @boxes_at w (.int .i64 proto) (.bool plain) (.bool rb) (.bool sb) (.int .i32 ms) (.int .i32 ct) (.int .i32 fr) x0 x1 x2 x3 x4 x5 x6 23 28 W h)
  have HPR := Lib.hid (fun m b W => protocol_C proto plain rb sb ms ct fr m b W)
  have H0 := Lib.hid h0
  clear hK h0 hA
  go_enter Tryz.func15, Tryz.ntmps15
  go_wp2_with (go_at_call 25; refine (newMem _).mono ?_)
  rintro e W1 ⟨m, b, rfl, hm, hb, hM, hB⟩
  replace hm : w.heap.size + 1 + 1 ≤ m := by simpa using hm
  replace hb : w.heap.size + 1 + 1 ≤ b := by simpa using hb
  rw [show ∀ (x y : Obj), ((w.alloc x).alloc y).heap.size = w.heap.size + 1 + 1 from fun x y => by simp] at hB
  have hw1 : Below w.heap.size w W1 := (((Below.refl _ w).alloc (Nat.le_refl _) _).alloc (by simp) _).trans (hB.mono (by omega))
  have HM := Lib.hid hM
  have HB := Lib.hid hB
  have HW1 := Lib.hid hw1
  have hml := hM.lt
  have hbl := hM.2.2.2.lt.1
  have hbs := hB.size
  simp at hbs
  clear hM hB hw1
  obtain ⟨⟨p0, p1, p2, p3, p4, p5, p6⟩, q0, q1, q2, q3, q4, q5, q6⟩ := HBX.out W1 HB.out
  have hc := ctx_any
  go_wp2_with (fail)
  refine (HPR.out m b W1 HM.out).mono ?_
  rintro e W2 ⟨O, S2, rfl, hE2, hI2, hS2, hB2⟩
  clear p0 p1 p2 p3 p4 p5 p6 q0 q1 q2 q3 q4 q5 q6
  have HB2 := Lib.hid (HB.out.trans (hB2.mono hbs))
  have HW2 := Lib.hid (show Below w.heap.size w W2 from HW1.out.trans (hB2.mono (by omega)))
  have hown : ∀ k, k ∈ S2 → w.heap.size + 1 + 1 ≤ k := fun k hk => by rcases hS2 k hk with h | h | h; omega; omega; exact Nat.le_trans hbs h
  have hh := hE2 (opsM (toB nm) (wrap32 t) seq V)
  unfold OverMem.enc at hh
  obtain ⟨P, s0, bytes, mem, room0⟩ := O
  dsimp only at hh hI2 ⊢
  obtain ⟨R, hRe⟩ : ∃ R, runs P.run (opsM (toB nm) (wrap32 t) seq V) s0 = R := ⟨_, rfl⟩
  rw [hRe] at hh
  have hR : R.2 = 0 := (congrArg Prod.snd hh).trans H0.out
  have HRb := Lib.hid (show bytes R.1 = (encC proto (cfgOf plain rb sb ms ct fr) (opsM (toB nm) (wrap32 t) seq V)).1 from congrArg Prod.fst hh)
  have z1 : (P.run s0 (.msgB (toB nm) (wrap32 t) seq)).2 = 0 := by
    by_cases hz : (P.run s0 (.msgB (toB nm) (wrap32 t) seq)).2 = 0
    · exact hz
    · have := runs_bad P.run _ _ _ hRe hz
      rw [this]; exact hR
  have r1 := runs_ok P.run _ _ _ hRe z1
  have g1 := P.grow s0 (.msgB (toB nm) (wrap32 t) seq)
  obtain ⟨s1, hs1⟩ : ∃ s1, (P.run s0 (.msgB (toB nm) (wrap32 t) seq)).1 = s1 := ⟨_, rfl⟩
  rw [hs1] at r1 g1
  have e1 : P.run s0 (.msgB (toB nm) (wrap32 t) seq) = (s1, 0) := Prod.ext hs1 z1
  have z2 : (runs P.run (ops V) s1).2 = 0 := by
    by_cases hz : (runs P.run (ops V) s1).2 = 0
    · exact hz
    · have := runs_bad_app P.run _ _ _ r1 hz
      rw [this]; exact hR
  have r2 := runs_ok_app P.run _ _ _ r1 z2
  have g2 := P.grows (ops V) s1
  obtain ⟨s2, hs2⟩ : ∃ s2, (runs P.run (ops V) s1).1 = s2 := ⟨_, rfl⟩
  rw [hs2] at r2 g2
  have e2 : runs P.run (ops V) s1 = (s2, 0) := Prod.ext hs2 z2
  have e3 : P.run s2 .msgE = R := (runs_one P.run .msgE s2).symm.trans r2
  have hcosts : costs (opsM (toB nm) (wrap32 t) seq V) = WOp.cost (.msgB (toB nm) (wrap32 t) seq) + (costs (ops V) + 32) := by
    simp only [opsM, costs_cons, costs_append, costs_nil]; rfl
  rw [hcosts] at hr
  have hO1 := P.at_ hI2 (.msgB (toB nm) (wrap32 t) seq) rfl ⟨by simpa [toB] using hn, by unfold wrap32; omega, hs⟩ (by rw [room0]; omega)
  rw [e1] at hO1
  have hw32 : wrap32 t = IntKind.i32.wrap t := by rw [IntKind.wrap_i32]; unfold wrap32; omega
  have HO1 := Lib.hid (show ∀ W, Step [] [] W2 W → Calls Tryz.prog (P.fn "WriteMessageBegin") #[P.ptr, ctxV, strV (toB nm), .int .i32 (IntKind.i32.wrap t), .int .i32 seq] W (Did P.Is S2 W (s1, 0)) from by
    have h1 : ∀ W, Step [] [] W2 W → Calls Tryz.prog (P.fn "WriteMessageBegin") #[P.ptr, ctxV, strV (toB nm), .int .i32 (wrap32 t), .int .i32 seq] W (Did P.Is S2 W (s1, 0)) := hO1
    rw [hw32] at h1
    exact h1)
  clear hw32
  have HO2 := Lib.hid (fun S W hI hS hB => put_any P w V hw S s1 W _ hI hS hB HKV.out (by rw [room0] at g1; omega))
  have HO3 := Lib.hid (fun S W (hI : P.Is S s2 W) => P.at_ hI .msgE rfl trivial (by rw [room0] at g1; show P.room s2 + 32 ≤ _; omega))
  rw [e2] at HO2
  rw [e3] at HO3
  have HOWN := Lib.hid hown
  have HR := Lib.hid hR
  have HMEM := Lib.hid (fun S s w => @mem S s w)
  have hV : ∀ W, Below w.heap.size w W → (convert 24 9 (.slice A nm.length cp)).run Tryz.prog W = .ok (strV (toB nm)) W := fun W hW => Kd.C_string Tryz.underlying24 Tryz.underlying5 Tryz.underlying9 (Kd.C_below HAV.out hW)
  have HV := Lib.hid hV
  obtain ⟨hm1, hm2, hm3⟩ := P.m_msgB
  obtain ⟨hk1, hk2, hk3⟩ := P.m_msgE
  clear hB2 hI2 hS2 hE2 hown hh hRe z1 r1 g1 hs1 e1 z2 r2 g2 hs2 e2 e3 hcosts hr hO1 hV hR mem room0
  go_wp2_with (fail)
  go_region_held3 (fun W' => (convert 24 9 (.slice A nm.length cp)).run Tryz.prog W' = .ok (strV (toB nm)) W') (first | exact HV.out _ HW2.out | exact HV.out _ HW2.out.drew | exact HV.out _ HW3.out)
    (first
      | (go_at_call 33; refine (hc _).mono ?_; rintro e w' ⟨rfl, rfl⟩)
      | (refine (HO1.out _ ?_).mono ?_; exact (Step.refl _ _).drew; rintro e W3 ⟨ev, S3, rfl, he, hI3, hs3⟩; have HB3 := Lib.hid (HB2.out.trans (((Step.refl S2 W2).drew.trans hs3).below _ (Nat.le_trans (by simp) HB2.out.size) HOWN.out)); have HW3 := Lib.hid (HW2.out.trans (((Step.refl S2 W2).drew.trans hs3).below w.heap.size HW2.out.size (fun k hk => by have := HOWN.out k hk; omega))); have HE3 := Lib.hid he; have HI3 := Lib.hid hI3; have HS3 := Lib.hid ((Step.refl S2 W2).drew.trans hs3); clear he hI3 hs3))
  all_goals (
    obtain rfl := HE3.out.zero
    obtain ⟨⟨p0, p1, p2, p3, p4, p5, p6⟩, q0, q1, q2, q3, q4, q5, q6⟩ := HBX.out W3 HB3.out
    have hO3 : ∀ k, k ∈ S3 → w.heap.size ≤ k := fun k hk => by
      rcases HS3.out.own k hk with h | h
      · have := HOWN.out k h; omega
      · have := HW2.out.size; omega
    have hP2 := Lib.hid (HO2.out S3 W3 HI3.out hO3 HW3.out)
    go_wp2_with (fail)
    refine hP2.out.mono ?_
    rintro e W4 ⟨ev, S4, rfl, he4, hI4, hs4⟩
    obtain rfl := he4.zero
    have hO4 : ∀ k, k ∈ S4 → w.heap.size ≤ k := fun k hk => by
      rcases hs4.own k hk with h | h
      · exact hO3 k h
      · have := HW3.out.size; omega
    have HW4 := Lib.hid (show Below w.heap.size w W4 from HW3.out.trans (hs4.below w.heap.size HW3.out.size hO3))
    have HO4 := Lib.hid (HO3.out S4 W4 hI4)
    clear p0 p1 p2 p3 p4 p5 p6 q0 q1 q2 q3 q4 q5 q6 hs4 hI4 he4
    go_wp2_with (fail)
    go_region_with (first
      | (go_at_call 33; refine (hc _).mono ?_; rintro e w' ⟨rfl, rfl⟩)
      | (refine (HO4.out _ ?_).mono ?_; exact (Step.refl _ _).drew; rintro e W5 ⟨ev, S5, rfl, he5, hI5, hs5⟩))
    all_goals (
      rw [HR.out] at he5
      obtain rfl := he5.zero
      obtain ⟨b3, g3, hM3, -, -, hg3⟩ := HMEM.out S5 R.1 _ hI5
      rw [HRb.out] at hM3
      have hgo : w.heap.size ≤ g3 := by
        rcases hs5.own g3 hg3 with hh | hh
        · exact hO4 g3 hh
        · have := HW4.out.size; simp at hh; omega
      have hbw := HW4.out.trans (((Step.refl S4 W4).drew.trans hs5).below w.heap.size HW4.out.size hO4)
      have HM3 := Lib.hid hM3
      have HBW := Lib.hid hbw
      have cm3 := hM3.cell
      clear he5 hM3 hg3 hbw hI5 hs5
      go_wp2_with (go_at_call 28; refine (buf_bytes b3 g3 _ _ HM3.out.2.2.2).mono ?_)
      rintro e W6 ⟨v, rfl, hv, n, rfl⟩
      go_wp2_with (go_at_call 29; refine (kind_nil _).mono ?_; rintro e w' ⟨rfl, rfl⟩)
      go_ret2
      exact ⟨v, g3, rfl, hgo, hv, below_drewN HBW.out n⟩))

end Go.Proofs.YtnpiheoglilcbaaGreatDoor

/-! A slice of numbers that comes in, in the words of the print. -/
namespace Go.Proofs.YtnpiheoglilcbaaGreatDoor
open Go.RowKit Go.Deep Go.Proofs.YtnpiheoglilcbaaGreatDoorW.PrintWords
set_option linter.unusedVariables false
set_option linter.unusedSimpArgs false

/-- A slice of numbers that came in: nil, or a row of cells. -/
def IsRow (k : IntKind) (w : World) (a : Option Addr) (len cap : Nat) (zs : List Int) : Prop :=
  (a = none ∧ len = 0 ∧ cap = 0 ∧ zs = []) ∨
  ∃ x, a = some x ∧ len ≤ cap ∧ cap ≤ maxLen ∧ zs.length = cap ∧ (∀ i, i < zs.length → w.cell? (x.add i) = some (.int k (zs.getD i 0))) ∧ ∀ n ∈ zs, (Lit.int k n).wf = true

theorem row_bytes {w : World} {a : Option Addr} {len cap : Nat} {zs : List Int} (h : IsRow .u8 w a len cap zs) : ∃ nm : List Int, nm.length = len ∧ (Kd.int .u8).C w a nm.length nm ∧ ∀ x ∈ nm, 0 ≤ x ∧ x < 256 := by
  rcases h with ⟨rfl, rfl, _, _⟩ | ⟨x, rfl, hl, hm, hz, hc, hw⟩
  · exact ⟨[], rfl, Kd.C_nil _ _, by simp⟩
  · refine ⟨zs.take len, by simp; omega, ⟨rfl, by simp; unfold maxLen at hm; omega, fun h0 => ⟨x, rfl, fun j p hj => ⟨[.int .u8 p], rfl, rfl, fun i u hu => ?_⟩⟩⟩, fun y hy => ?_⟩
    · cases i with
      | succ i => simp at hu
      | zero =>
        simp only [List.getElem?_cons_zero, Option.some.injEq] at hu
        subst hu
        rw [List.getElem?_take] at hj
        by_cases hjl : j < len
        · rw [if_pos hjl] at hj
          have hlt : j < zs.length := by omega
          have hcj := hc j hlt
          rw [List.getD_eq_getElem?_getD, hj] at hcj
          simpa [Kd.int, Kd.scalar] using hcj
        · rw [if_neg hjl] at hj
          cases hj
    · have hwf := hw y (List.mem_of_mem_take hy)
      have h1 : IntKind.u8.min ≤ y ∧ y ≤ IntKind.u8.max := by simpa [Lit.wf] using hwf
      have e1 : IntKind.u8.min = 0 := by decide
      have e2 : IntKind.u8.max = 255 := by decide
      omega

end Go.Proofs.YtnpiheoglilcbaaGreatDoor

/-! What the calls of a message write by either protocol. Plain, no program. -/
namespace Go.Proofs.YtnpiheoglilcbaaGreatDoor
open Go.RowKit
set_option linter.unusedVariables false
set_option linter.unusedSimpArgs false

theorem enc_begin (proto : Int) (c : Cfg) (nm : List UInt8) (t seq : Int) (hf : (WOp.msgB nm t seq).fit) : (encC proto c [.msgB nm t seq]).2 = 0 := by
  unfold encC
  by_cases hp : proto = 1
  · rw [if_pos hp]
    have := step_c (s := CW0) (a := []) (o := .msgB nm t seq) (l := []) (r := ((CW0, [] ++ (cmpRun CW0 (.msgB nm t seq)).2.1), 0)) okW_0 hf rfl rfl
    rw [this]
  · rw [if_neg hp]

/-- The bytes of a message are those of its begin and of its value. -/
theorem enc_message (proto : Int) (c : Cfg) (nm : List UInt8) (t seq : Int) (V : Val) (hf : (WOp.msgB nm t seq).fit) (h : rightV V = true) (hw : wfV V) (ht : tot V ≤ 65536) :
    encC proto c (opsM nm t seq V) = ((encC proto c [.msgB nm t seq]).1 ++ gen (codec proto) V, 0) := by
  unfold encC codec opsM
  by_cases hp : proto = 1
  · simp only [if_pos hp]
    obtain ⟨s', r, k1, k2, k3, k4⟩ := cmp_gen V h hw ht CW0 ([] ++ (cmpRun CW0 (.msgB nm t seq)).2.1) okW_0 rfl
    have h1 := step_c (s := CW0) (a := []) (o := .msgB nm t seq) (l := []) (r := ((CW0, [] ++ (cmpRun CW0 (.msgB nm t seq)).2.1), 0)) okW_0 hf rfl rfl
    have h2 : runs cmpStep [.msgE] (s', ([] ++ (cmpRun CW0 (.msgB nm t seq)).2.1) ++ gen CC V) = ((s', (([] ++ (cmpRun CW0 (.msgB nm t seq)).2.1) ++ gen CC V) ++ []), 0) := step_c k4 trivial (o := .msgE) (s1 := s') (x := []) rfl rfl
    have h3 := step_c (s := CW0) (a := []) (o := .msgB nm t seq) (l := ops V ++ [.msgE]) okW_0 hf rfl (runs_go cmpStep _ [.msgE] _ _ r)
    rw [h2] at h3
    rw [h1, h3]
    simp
  · simp only [if_neg hp]
    rw [binAll_cons, binAll_append, bin_gen _ V h, binAll_cons, binAll_nil, binAll_cons, binAll_nil]
    simp [binO, binOut]

theorem costs_message (nm : List UInt8) (t seq : Int) (V : Val) : costs (opsM nm t seq V) = nm.length + 32 + (costs (ops V) + 32) := by
  simp only [opsM, costs_cons, costs_append, costs_nil]; rfl

end Go.Proofs.YtnpiheoglilcbaaGreatDoor

/- Single steps by both protocols. No condition. -/
import Derived.Test.YthmkkbihfdcbiaaGreatDoorMc
import Derived.Test.YthmkkbihfdcbiaaGreatDoorMg1
import Derived.Test.YthmkkbihfdcbiaaGreatDoorMe
import Derived.Test.YthmkkbihfdcbiaaGreatDoorMb2
import Derived.Deep.AppendLies
/-! A box of seven cells in later memories. -/
namespace Go.Proofs.YthmkkbihfdcbiaaGreatDoor

open Go.RowKit Go.Deep

set_option linter.unusedVariables false

set_option linter.unusedSimpArgs false

/-- What lies in a box. -/
def Box7 (b : Nat) (x0 x1 x2 x3 x4 x5 x6 : Value) (W : World) : Prop :=
  W.cell? ⟨b, 0, none⟩ = some x0 ∧ W.cell? ⟨b, 1, none⟩ = some x1 ∧ W.cell? ⟨b, 2, none⟩ = some x2 ∧ W.cell? ⟨b, 3, none⟩ = some x3 ∧ W.cell? ⟨b, 4, none⟩ = some x4 ∧ W.cell? ⟨b, 5, none⟩ = some x5 ∧ W.cell? ⟨b, 6, none⟩ = some x6

theorem Box7.at_ {b : Nat} {x0 x1 x2 x3 x4 x5 x6 : Value} {t : TypeId} {f : Nat × Nat} {W : World} (h : W.heap[b]? = some (.cells #[x0, x1, x2, x3, x4, x5, x6] t f)) : Box7 b x0 x1 x2 x3 x4 x5 x6 W :=
  ⟨(cell_heap h 0).trans rfl, (cell_heap h 1).trans rfl, (cell_heap h 2).trans rfl, (cell_heap h 3).trans rfl, (cell_heap h 4).trans rfl, (cell_heap h 5).trans rfl, (cell_heap h 6).trans rfl⟩

theorem Box7.of {b B : Nat} {x0 x1 x2 x3 x4 x5 x6 : Value} {Wa W : World} (h : Box7 b x0 x1 x2 x3 x4 x5 x6 Wa) (hB : Below B Wa W) (hb : b < B) : Box7 b x0 x1 x2 x3 x4 x5 x6 W := by
  obtain ⟨p0, p1, p2, p3, p4, p5, p6⟩ := h
  have e0 : ∀ i, W.cell? ⟨b, i, none⟩ = Wa.cell? ⟨b, i, none⟩ := fun i => hB.cell (p := ⟨b, i, none⟩) hb
  exact ⟨(e0 0).trans p0, (e0 1).trans p1, (e0 2).trans p2, (e0 3).trans p3, (e0 4).trans p4, (e0 5).trans p5, (e0 6).trans p6⟩

theorem Box7.proto {b : Nat} {x0 x1 x2 x3 x4 x5 x6 : Value} {W : World} (h : Box7 b x0 x1 x2 x3 x4 x5 x6 W) (v : Value) : Box7 b v x1 x2 x3 x4 x5 x6 (W.setCell ⟨b, 0, none⟩ v) := by
  obtain ⟨p0, p1, p2, p3, p4, p5, p6⟩ := h
  have e0 : ∀ i, (W.setCell ⟨b, 0, none⟩ v).cell? ⟨b, i + 1, none⟩ = W.cell? ⟨b, i + 1, none⟩ := fun i => World.cell?_setCell_other _ _ _ _ (by intro h; simp only [Addr.mk.injEq] at h; omega)
  exact ⟨World.cell?_setCell_same _ _ _ p0, (e0 0).trans p1, (e0 1).trans p2, (e0 2).trans p3, (e0 3).trans p4, (e0 4).trans p5, (e0 5).trans p6⟩

theorem Box7.other {b k : Nat} {x0 x1 x2 x3 x4 x5 x6 : Value} {W : World} (h : Box7 b x0 x1 x2 x3 x4 x5 x6 W) (hk : b ≠ k) (i : Nat) (v : Value) : Box7 b x0 x1 x2 x3 x4 x5 x6 (W.setCell ⟨k, i, none⟩ v) := by
  obtain ⟨p0, p1, p2, p3, p4, p5, p6⟩ := h
  have e0 : ∀ j, (W.setCell ⟨k, i, none⟩ v).cell? ⟨b, j, none⟩ = W.cell? ⟨b, j, none⟩ := fun j => World.cell?_setCell_other _ _ _ _ (by intro h; simp only [Addr.mk.injEq] at h; omega)
  exact ⟨(e0 0).trans p0, (e0 1).trans p1, (e0 2).trans p2, (e0 3).trans p3, (e0 4).trans p4, (e0 5).trans p5, (e0 6).trans p6⟩

end Go.Proofs.YthmkkbihfdcbiaaGreatDoor

/-! A step that begins a message is written by whatever protocol. -/
namespace Go.Proofs.YthmkkbihfdcbiaaGreatDoor

open Go.RowKit Go.Deep Go.Proofs.YthmkkbihfdcbiaaGreatDoorW.PrintWords

set_option linter.unusedVariables false

set_option linter.unusedSimpArgs false

end Go.Proofs.YthmkkbihfdcbiaaGreatDoor

/-! One step is done by whatever protocol. -/
namespace Go.Proofs.YthmkkbihfdcbiaaGreatDoor

open Go.RowKit Go.Deep Go.Proofs.YthmkkbihfdcbiaaGreatDoorW.PrintWords

set_option linter.unusedVariables false

set_option linter.unusedSimpArgs false

end Go.Proofs.YthmkkbihfdcbiaaGreatDoor

/-! One step is done over a new memory buffer, whatever the configuration, by both protocols. -/
namespace Go.Proofs.YthmkkbihfdcbiaaGreatDoor

open Go.RowKit Go.Deep Go.Proofs.YthmkkbihfdcbiaaGreatDoorW.PrintWords

set_option linter.unusedVariables false

set_option linter.unusedSimpArgs false

end Go.Proofs.YthmkkbihfdcbiaaGreatDoor

/-! Single steps are written by whatever protocol: numbers, texts, identifiers, the begins of lists, sets and maps. Printed by a program (wip/tools/wsteps.py). -/
namespace Go.Proofs.YthmkkbihfdcbiaaGreatDoor

open Go.RowKit Go.Deep Go.Proofs.YthmkkbihfdcbiaaGreatDoorW.PrintWords

set_option linter.unusedVariables false

set_option linter.unusedSimpArgs false

end Go.Proofs.YthmkkbihfdcbiaaGreatDoor

/-! One step is written over a new memory buffer, whatever the configuration, by both protocols. Turned by a program (wip/tools/p21.py). -/
namespace Go.Proofs.YthmkkbihfdcbiaaGreatDoor

open Go.RowKit Go.Deep Go.Proofs.YthmkkbihfdcbiaaGreatDoorW.PrintWords

set_option linter.unusedVariables false

set_option linter.unusedSimpArgs false

/-- A step that is written by a call, where what it reads lies below. -/
def StepWrites (w0 : World) (o : WOp) (op a1 a2 a3 a4 a5 : Int) (A : Option Addr) (nA cA : Nat) : Prop :=
  ∀ (P : PW) {S : List Nat} {s : P.σ} {w : World}, P.Is S s w → Below w0.heap.size w0 w → (∀ k, k ∈ S → w0.heap.size ≤ k) → P.room s + o.cost ≤ 140737488355328 →
    Calls Tryz.prog 62 #[.iface P.ty P.ptr, .agg #[.int .i64 op, .int .i64 a1, .int .i64 a2, .int .i64 a3, .int .i64 a4, .int .i64 a5, .slice A nA cA]] w (Did P.Is S w (P.run s o))

set_option maxRecDepth 100000 in
set_option maxHeartbeats 1000000 in
theorem writes_any (P : PW) (op a1 a2 a3 a4 a5 : Int) (A : Option Addr) (nA cA : Nat) {S : List Nat} {s s1 : P.σ} {w : World} (b : Nat) (h : P.Is S s w)
    (hb : Box7 b (.int .i64 op) (.int .i64 a1) (.int .i64 a2) (.int .i64 a3) (.int .i64 a4) (.int .i64 a5) (.slice A nA cA) w) (hbl : b < w.heap.size)
    (hwr : ∀ o, Calls Tryz.prog 62 #[.iface P.ty P.ptr, .agg #[.int .i64 op, .int .i64 a1, .int .i64 a2, .int .i64 a3, .int .i64 a4, .int .i64 a5, .slice A nA cA]] (w.alloc o) (Did P.Is S (w.alloc o) (s1, 0))) :
    Calls Tryz.prog 45 #[.iface P.ty P.ptr, .slice (some ⟨b, 0, none⟩) 1 1] w fun e w' => ∃ k cap S', e = .returned (.slice (some ⟨k, 0, none⟩) 1 cap) ∧ (w'.cell? ⟨k, 0, none⟩ = some (.int .i64 0) ∧ 1 ≤ cap) ∧ P.Is S' s1 w' ∧ Step S S' w w' := by
  obtain ⟨p0, p1, p2, p3, p4, p5, p6⟩ := hb
  obtain ⟨i0, hi, hz0, hz1, hz2⟩ := info_parts infoInt
  have HWR := Lib.hid hwr
  clear h hwr
  go_enter Tryz.func45, Tryz.ntmps45
  go_wp2_with (fail)
  refine wp_loop_rounds 2 ?_
  rw [rounds_succ]
  go_wp2_with (fail)
  refine (HWR.out _).mono ?_
  rintro e W1 ⟨ev, S1, rfl, he, hI1, hs1⟩
  obtain rfl := he.zero
  have HI1 := Lib.hid hI1
  have HS1 := Lib.hid (((Step.refl S w).alloc _).trans hs1)
  clear he hI1 hs1 p0 p1 p2 p3 p4 p5 p6
  go_wp2_with (first
    | (go_at_call 39; refine (kind_nil _).mono ?_; rintro e w' ⟨rfl, rfl⟩)
    | (at_builtin; refine wpList_append_lies _ rfl _ _ _ rfl 0 3 i0 (.int .i64 0) 1 8 Tryz.underlying30 hi hz0 hz1 hz2 rfl (by omega) _ _ _ rfl (World.ownsRow_nil _ _ _ _) ⟨W1.heap.size, 0, none⟩ 1 1 _ rfl ?_ (World.news_of_block (heap_alloc_new _ _)) ?_ (by omega) ?_ ?_ ?_ _ rfl ?_; rfl; (intro x hx; simp at hx; subst hx; rfl); (unfold maxLen; omega); omega; (simp <;> omega); intro g1 cap1 W2 hown hgrow hat hlt))
  have HOW := Lib.hid hown
  have HG := Lib.hid hgrow
  clear hown hgrow hat
  rw [rounds_succ]
  go_wp2_with (fail)
  go_ret
  have hg := HG.out
  have h0 : Step [] [] W1 (W1.alloc (.cells #[.int .i64 0] 3)) := (Step.refl [] W1).alloc _
  have hst : Step [] [] W1 W2 := by
    refine ⟨hg.os.trans h0.os, hg.tape.trans h0.tape, hg.output.trans h0.output, Nat.le_trans h0.size hg.size, fun k hk hn => ?_, fun k hk => by simp at hk⟩
    exact (hg.block k (Nat.lt_of_lt_of_le hk h0.size) (fun e => by cases e)).trans (h0.block k hk (by simp))
  refine ⟨g1, cap1, S1, rfl, ?_, P.step HI1.out hst (by simp), HS1.out.trans (hst.more (by simp) (fun k hk => .inr (.inl hk)))⟩
  rcases HOW.out.2 with ⟨e, _⟩ | ⟨g2, cap2, cur, e, _, h2, h3, h4, h5, h6⟩
  · cases e
  · injection e with e1 e2 e3
    injection e1 with e1
    injection e1 with e1 _ _
    subst e1
    refine ⟨?_, by omega⟩
    rw [cell_heap h2]
    have : (cur.toList.take ((0 + 1) * 1))[0]? = some (.int .i64 0) := by rw [h6]; rfl
    simpa using this

set_option maxRecDepth 100000 in
set_option maxHeartbeats 1000000 in
theorem Write_any (proto : Int) (plain rb sb : Bool) (ms ct fr : Int) (o : WOp) (op a1 a2 a3 a4 a5 : Int) (A : Option Addr) (nA cA : Nat) (w : World) (b : Nat) (hst : StepWrites w o op a1 a2 a3 a4 a5 A nA cA) (hcost : o.cost ≤ 70368744177664)
    (hb : Box7 b (.int .i64 op) (.int .i64 a1) (.int .i64 a2) (.int .i64 a3) (.int .i64 a4) (.int .i64 a5) (.slice A nA cA) w) (hbl : b < w.heap.size) (h0 : (encC proto (cfgOf plain rb sb ms ct fr) [o]).2 = 0) :
    Calls Tryz.prog 29 #[confV proto plain rb sb ms ct fr, .slice (some ⟨b, 0, none⟩) 1 1] w fun e w' => ∃ v k q cap, e = .returned (.tuple #[v, .slice (some ⟨q, 0, none⟩) 1 cap]) ∧ IsB (Lib.byteCells (encC proto (cfgOf plain rb sb ms ct fr) [o]).1) v k w' ∧ (w'.cell? ⟨q, 0, none⟩ = some (.int .i64 0) ∧ 1 ≤ cap) ∧ Below w.heap.size w w' := by
  have HBX := Lib.hid (fun W h => @Box7.of w.heap.size (w.heap.size + 1) (.int .i64 proto) (.bool plain) (.bool rb) (.bool sb) (.int .i32 ms) (.int .i32 ct) (.int .i32 fr) (w.alloc (.cells #[.int .i64 proto, .bool plain, .bool rb, .bool sb, .int .i32 ms, .int .i32 ct, .int .i32 fr] 25)) W (Box7.at_ (heap_alloc_new w _)) h (by omega))
  have HPR := Lib.hid (fun m b W => protocol_C proto plain rb sb ms ct fr m b W)
  have HX := Lib.hid (fun (P : PW) (S : List Nat) (s : P.σ) (W : World) (hI : P.Is S s W) => hst P hI)
  have HBB := Lib.hid hb
  have H0 := Lib.hid h0
  clear hst hb h0
  go_enter Tryz.func29, Tryz.ntmps29
  go_wp2_with (go_at_call 35; refine (newMem _).mono ?_)
  rintro e W1 ⟨m, g, rfl, hm, hg, hM, hB⟩
  have hsz : (w.alloc (.cells #[.int .i64 proto, .bool plain, .bool rb, .bool sb, .int .i32 ms, .int .i32 ct, .int .i32 fr] 25)).heap.size = w.heap.size + 1 := by simp
  rw [hsz] at hm hg hB
  have hw1 : Below w.heap.size w W1 := ((Below.refl _ w).alloc (Nat.le_refl _) _).trans (hB.mono (by omega))
  have HM := Lib.hid hM
  have HB := Lib.hid hB
  have HW1 := Lib.hid hw1
  have hbs := hB.size
  rw [hsz] at hbs
  clear hM hB hw1
  obtain ⟨p0, p1, p2, p3, p4, p5, p6⟩ := HBX.out W1 HB.out
  go_wp2_with (fail)
  refine (HPR.out m g W1 HM.out).mono ?_
  rintro e W2 ⟨O, S2, rfl, hE2, hI2, hS2, hB2⟩
  clear p0 p1 p2 p3 p4 p5 p6
  have HW2 := Lib.hid (show Below w.heap.size w W2 from HW1.out.trans (hB2.mono (by omega)))
  have hown : ∀ k, k ∈ S2 → w.heap.size + 1 ≤ k := fun k hk => by rcases hS2 k hk with h | h | h; omega; omega; exact Nat.le_trans hbs h
  have hh := hE2 [o]
  unfold OverMem.enc at hh
  obtain ⟨P, s0, bytes, mem, room0⟩ := O
  dsimp only at hh hI2 ⊢
  rw [runs_one] at hh
  obtain ⟨R, hRe⟩ : ∃ R, P.run s0 o = R := ⟨_, rfl⟩
  rw [hRe] at hh
  have hR : R.2 = 0 := (congrArg Prod.snd hh).trans H0.out
  have HRb := Lib.hid (show bytes R.1 = (encC proto (cfgOf plain rb sb ms ct fr) [o]).1 from congrArg Prod.fst hh)
  have e1 : P.run s0 o = (R.1, 0) := hRe.trans (Prod.ext rfl hR)
  have HO := Lib.hid (writes_any P op a1 a2 a3 a4 a5 A nA cA (s1 := R.1) b hI2 (HBB.out.of HW2.out hbl) (Nat.lt_of_lt_of_le hbl HW2.out.size) (fun o' => by
    have hst' := HX.out P S2 s0 (W2.alloc o') (P.step hI2 ((Step.refl [] W2).alloc o') (by simp)) (HW2.out.alloc HW2.out.size o') (fun k hk => by have := hown k hk; omega) (by rw [room0]; omega)
    rw [e1] at hst'
    exact hst'))
  have HOWN := Lib.hid hown
  have HMEM := Lib.hid (fun S s w => @mem S s w)
  clear hB2 hI2 hS2 hE2 hown hh hRe hR e1 mem room0
  go_wp2_with (fail)
  refine HO.out.mono ?_
  rintro e W3 ⟨q, cap, S3, rfl, hq, hI3, hs3⟩
  obtain ⟨b3, g3, hM3, -, -, hg3⟩ := HMEM.out S3 R.1 _ hI3
  rw [HRb.out] at hM3
  have hbw := HW2.out.trans (hs3.below w.heap.size HW2.out.size (fun k hk => by have := HOWN.out k hk; omega))
  have HM3 := Lib.hid hM3
  have HBW := Lib.hid hbw
  have HQ := Lib.hid hq
  have cm3 := hM3.cell
  clear hM3 hg3 hbw hI3 hs3 hq
  go_wp2_with (go_at_call 38; refine (buf_bytes b3 g3 _ _ HM3.out.2.2.2).mono ?_)
  rintro e W6 ⟨v, rfl, hv, k, rfl⟩
  go_wp2_with (fail)
  go_ret2
  exact ⟨v, g3, q, cap, rfl, hv, HQ.out, below_drewN HBW.out k⟩

end Go.Proofs.YthmkkbihfdcbiaaGreatDoor

/- One step alone, written and read back. No condition. -/
import Derived.Test.YthmkkbihfdcbiaaGreatDoorMn
import Derived.Test.YthmkkbihfdcbiaaGreatDoorMv4
import Derived.Test.YthmkkbihfdcbiaaGreatDoorMr
import Derived.Deep.QuietTactic
import Derived.BigQuiet
import Derived.Test.YthmkkbihfdcbiaaGreatDoorMr2
import Derived.Test.YthmkkbihfdcbiaaGreatDoorMg1
import Derived.Test.YthmkkbihfdcbiaaGreatDoorMb1
import Derived.Test.YthmkkbihfdcbiaaGreatDoorMd1
import Derived.Test.YthmkkbihfdcbiaaGreatDoorMb2
/-! Steps that are written and steps that are read: which calls they come to. -/
namespace Go.Proofs.YthmkkbihfdcbiaaGreatDoor

open Go.RowKit Go.Deep

set_option linter.unusedVariables false

set_option linter.unusedSimpArgs false

open Go.Proofs.YthmkkbihfdcbiaaGreatDoorW.PrintWords

section

variable (w0 : World) (a1 a2 a3 a4 : Int) (A : Option Addr) (nA cA : Nat)

end

theorem sw_lst (w0 : World) (t n a2 a4 a5 : Int) (A : Option Addr) (nA cA : Nat) (h0 : -9223372036854775808 ≤ n) (h1 : n < 9223372036854775808) : StepWrites w0 (.lstB (t % 256) n) 9 t a2 n a4 a5 A nA cA := fun P _ _ _ h _ _ hr => write_lst P t n _ _ _ _ h0 h1 h hr

theorem sw_set (w0 : World) (t n a2 a4 a5 : Int) (A : Option Addr) (nA cA : Nat) (h0 : -9223372036854775808 ≤ n) (h1 : n < 9223372036854775808) : StepWrites w0 (.setB (t % 256) n) 11 t a2 n a4 a5 A nA cA := fun P _ _ _ h _ _ hr => write_set P t n _ _ _ _ h0 h1 h hr

theorem sw_map (w0 : World) (t k n a4 a5 : Int) (A : Option Addr) (nA cA : Nat) (h0 : -9223372036854775808 ≤ n) (h1 : n < 9223372036854775808) : StepWrites w0 (.mapB (k % 256) (t % 256) n) 7 t k n a4 a5 A nA cA := fun P _ _ _ h _ _ hr => write_map P t k n _ _ _ h0 h1 h hr

section

variable (a1 a2 a3 a4 a5 : Int) (A : Option Addr) (nA cA : Nat)

theorem sr_lst : StepReads .lstB (fun g => { t := g.t, size := g.size }) 9 a1 a2 a3 a4 a5 A nA cA := fun P _ _ _ h _ _ _ hr => read_lst P _ _ _ _ _ _ h hr

theorem sr_set : StepReads .setB (fun g => { t := g.t, size := g.size }) 11 a1 a2 a3 a4 a5 A nA cA := fun P _ _ _ h _ _ _ hr => read_set P _ _ _ _ _ _ h hr

theorem sr_map : StepReads .mapB (fun g => { k := g.k, t := g.t, size := g.size }) 7 a1 a2 a3 a4 a5 A nA cA := fun P _ _ _ h _ _ _ hr => read_map P _ _ _ _ _ _ h hr

end

end Go.Proofs.YthmkkbihfdcbiaaGreatDoor

/-! What one step told held against what it should tell. -/
namespace Go.Proofs.YthmkkbihfdcbiaaGreatDoor

open Go.RowKit Go.Deep

set_option linter.unusedVariables false

set_option linter.unusedSimpArgs false

open Go.Proofs.YthmkkbihfdcbiaaGreatDoorW.PrintWords

theorem equal_bytes {s : List UInt8} {v1 v2 : Value} {k1 k2 : Nat} {W : World} (h1 : IsB (Lib.byteCells s) v1 k1 W) (h2 : IsB (Lib.byteCells s) v2 k2 W) :
    Calls Tryz.prog 16 #[v1, v2] W fun e w' => e = .returned (.bool true) ∧ Drawn0 W w' := by
  obtain ⟨a1, c1, rfl, hc1, hC1⟩ := h1.ints
  obtain ⟨a2, c2, rfl, hc2, hC2⟩ := h2.ints
  have := equal_any hC1 hc1 hC2 hc2
  simpa using this

set_option maxRecDepth 100000 in
set_option maxHeartbeats 2000000 in
theorem sameGot_one (q1 q2 c1 c2 : Nat) (g : RGot) (v1 v2 : Value) (k1 k2 : Nat) (w : World) (h1 : GotAt q1 0 g v1 w) (h2 : GotAt q2 0 g v2 w) (b1 : IsB (Lib.byteCells g.s) v1 k1 w) (b2 : IsB (Lib.byteCells g.s) v2 k2 w) :
    Calls Tryz.prog 31 #[.slice (some ⟨q1, 0, none⟩) 1 c1, .slice (some ⟨q2, 0, none⟩) 1 c2] w fun e w' => e = .returned (.bool true) ∧ Below w.heap.size w w' := by
  have HQ := Lib.hid (fun W (hB : Below w.heap.size w W) => equal_bytes (b1.step (Step.ofBelow (S := []) hB) (by simp)) (b2.step (Step.ofBelow (S := []) hB) (by simp)))
  obtain ⟨a1, d1, rfl, hc1, hC1⟩ := b1.ints
  obtain ⟨a2, d2, rfl, hc2, hC2⟩ := b2.ints
  clear b1 b2 hc1 hC1 hc2 hC2
  obtain ⟨p0, p1, p2, p3, p4, p5, p6⟩ := h1
  obtain ⟨r0, r1, r2, r3, r4, r5, r6⟩ := h2
  have hq1 := World.block_lt_of_cell? w _ p0
  have hq2 := World.block_lt_of_cell? w _ r0
  dsimp only at hq1 hq2
  go_enter Tryz.func31, Tryz.ntmps31
  go_wp2_with (fail)
  refine wp_loop_rounds 2 ?_
  rw [rounds_succ]
  go_wp2_with (fail)
  go_region_held3 (fun W' => W'.cell? ⟨q1, 0, none⟩ = some (.int .i64 0) ∧ W'.cell? ⟨q1, 1, none⟩ = some (.int .i64 g.t) ∧ W'.cell? ⟨q1, 2, none⟩ = some (.int .i64 g.k) ∧ W'.cell? ⟨q1, 3, none⟩ = some (.int .i64 g.size) ∧ W'.cell? ⟨q1, 4, none⟩ = some (.int .i64 g.id) ∧ W'.cell? ⟨q1, 5, none⟩ = some (.int .i64 g.n) ∧ W'.cell? ⟨q1, 6, none⟩ = some (.slice a1 (ints g.s).length d1) ∧ W'.cell? ⟨q2, 0, none⟩ = some (.int .i64 0) ∧ W'.cell? ⟨q2, 1, none⟩ = some (.int .i64 g.t) ∧ W'.cell? ⟨q2, 2, none⟩ = some (.int .i64 g.k) ∧ W'.cell? ⟨q2, 3, none⟩ = some (.int .i64 g.size) ∧ W'.cell? ⟨q2, 4, none⟩ = some (.int .i64 g.id) ∧ W'.cell? ⟨q2, 5, none⟩ = some (.int .i64 g.n) ∧ W'.cell? ⟨q2, 6, none⟩ = some (.slice a2 (ints g.s).length d2)) (first | exact ⟨p0, p1, p2, p3, p4, p5, p6, r0, r1, r2, r3, r4, r5, r6⟩ | (simp [go_sem, *]; done)) (fail)
  · obtain ⟨Wa, hWa⟩ : ∃ Wa, Wa = ((w.alloc (.cells #[.int .i64 0, .int .i64 g.t, .int .i64 g.k, .int .i64 g.size, .int .i64 g.id, .int .i64 g.n, .slice a1 (ints g.s).length d1] 48)).alloc (.cells #[.int .i64 0, .int .i64 g.t, .int .i64 g.k, .int .i64 g.size, .int .i64 g.id, .int .i64 g.n, .slice a2 (ints g.s).length d2] 48)).drew := ⟨_, rfl⟩
    rw [← hWa]
    have hx : Wa.heap[w.heap.size]? = some (.cells #[.int .i64 0, .int .i64 g.t, .int .i64 g.k, .int .i64 g.size, .int .i64 g.id, .int .i64 g.n, .slice a1 (ints g.s).length d1] 48 (0, 0)) := by rw [hWa]; exact heap_alloc_old (heap_alloc_new w _) _
    have hy : Wa.heap[w.heap.size + 1]? = some (.cells #[.int .i64 0, .int .i64 g.t, .int .i64 g.k, .int .i64 g.size, .int .i64 g.id, .int .i64 g.n, .slice a2 (ints g.s).length d2] 48 (0, 0)) := by rw [hWa]; exact heap_alloc_at (by simp) _
    have HWa := Lib.hid (show Below w.heap.size w Wa from by rw [hWa]; exact (((Below.refl _ w).alloc (Nat.le_refl _) _).alloc (by simp) _).drew)
    have x0 : Wa.cell? ⟨w.heap.size, 0, none⟩ = some (.int .i64 0) := (cell_heap hx _).trans rfl
    have x1 : Wa.cell? ⟨w.heap.size, 1, none⟩ = some (.int .i64 g.t) := (cell_heap hx _).trans rfl
    have x2 : Wa.cell? ⟨w.heap.size, 2, none⟩ = some (.int .i64 g.k) := (cell_heap hx _).trans rfl
    have x3 : Wa.cell? ⟨w.heap.size, 3, none⟩ = some (.int .i64 g.size) := (cell_heap hx _).trans rfl
    have x4 : Wa.cell? ⟨w.heap.size, 4, none⟩ = some (.int .i64 g.id) := (cell_heap hx _).trans rfl
    have x5 : Wa.cell? ⟨w.heap.size, 5, none⟩ = some (.int .i64 g.n) := (cell_heap hx _).trans rfl
    have x6 : Wa.cell? ⟨w.heap.size, 6, none⟩ = some (.slice a1 (ints g.s).length d1) := (cell_heap hx _).trans rfl
    have y0 : Wa.cell? ⟨w.heap.size + 1, 0, none⟩ = some (.int .i64 0) := (cell_heap hy _).trans rfl
    have y1 : Wa.cell? ⟨w.heap.size + 1, 1, none⟩ = some (.int .i64 g.t) := (cell_heap hy _).trans rfl
    have y2 : Wa.cell? ⟨w.heap.size + 1, 2, none⟩ = some (.int .i64 g.k) := (cell_heap hy _).trans rfl
    have y3 : Wa.cell? ⟨w.heap.size + 1, 3, none⟩ = some (.int .i64 g.size) := (cell_heap hy _).trans rfl
    have y4 : Wa.cell? ⟨w.heap.size + 1, 4, none⟩ = some (.int .i64 g.id) := (cell_heap hy _).trans rfl
    have y5 : Wa.cell? ⟨w.heap.size + 1, 5, none⟩ = some (.int .i64 g.n) := (cell_heap hy _).trans rfl
    have y6 : Wa.cell? ⟨w.heap.size + 1, 6, none⟩ = some (.slice a2 (ints g.s).length d2) := (cell_heap hy _).trans rfl
    clear hx hy hWa p0 p1 p2 p3 p4 p5 p6 r0 r1 r2 r3 r4 r5 r6
    go_wp2_with (fail)
    refine (HQ.out _ HWa.out).mono ?_
    rintro e W9 ⟨rfl, hD⟩
    have HB := Lib.hid (HWa.out.trans (hD.below.mono HWa.out.size))
    clear hD
    go_wp2_with (fail)
    rw [rounds_succ]
    go_wp2_with (fail)
    go_ret
    exact ⟨rfl, HB.out⟩
  · obtain ⟨Wa, hWa⟩ : ∃ Wa, Wa = ((w.alloc (.cells #[.int .i64 0, .int .i64 g.t, .int .i64 g.k, .int .i64 g.size, .int .i64 g.id, .int .i64 g.n, .slice a2 (ints g.s).length d2] 48)).alloc (.cells #[.int .i64 0, .int .i64 g.t, .int .i64 g.k, .int .i64 g.size, .int .i64 g.id, .int .i64 g.n, .slice a1 (ints g.s).length d1] 48)).drew := ⟨_, rfl⟩
    rw [← hWa]
    have hx : Wa.heap[w.heap.size]? = some (.cells #[.int .i64 0, .int .i64 g.t, .int .i64 g.k, .int .i64 g.size, .int .i64 g.id, .int .i64 g.n, .slice a2 (ints g.s).length d2] 48 (0, 0)) := by rw [hWa]; exact heap_alloc_old (heap_alloc_new w _) _
    have hy : Wa.heap[w.heap.size + 1]? = some (.cells #[.int .i64 0, .int .i64 g.t, .int .i64 g.k, .int .i64 g.size, .int .i64 g.id, .int .i64 g.n, .slice a1 (ints g.s).length d1] 48 (0, 0)) := by rw [hWa]; exact heap_alloc_at (by simp) _
    have HWa := Lib.hid (show Below w.heap.size w Wa from by rw [hWa]; exact (((Below.refl _ w).alloc (Nat.le_refl _) _).alloc (by simp) _).drew)
    have y0 : Wa.cell? ⟨w.heap.size, 0, none⟩ = some (.int .i64 0) := (cell_heap hx _).trans rfl
    have y1 : Wa.cell? ⟨w.heap.size, 1, none⟩ = some (.int .i64 g.t) := (cell_heap hx _).trans rfl
    have y2 : Wa.cell? ⟨w.heap.size, 2, none⟩ = some (.int .i64 g.k) := (cell_heap hx _).trans rfl
    have y3 : Wa.cell? ⟨w.heap.size, 3, none⟩ = some (.int .i64 g.size) := (cell_heap hx _).trans rfl
    have y4 : Wa.cell? ⟨w.heap.size, 4, none⟩ = some (.int .i64 g.id) := (cell_heap hx _).trans rfl
    have y5 : Wa.cell? ⟨w.heap.size, 5, none⟩ = some (.int .i64 g.n) := (cell_heap hx _).trans rfl
    have y6 : Wa.cell? ⟨w.heap.size, 6, none⟩ = some (.slice a2 (ints g.s).length d2) := (cell_heap hx _).trans rfl
    have x0 : Wa.cell? ⟨w.heap.size + 1, 0, none⟩ = some (.int .i64 0) := (cell_heap hy _).trans rfl
    have x1 : Wa.cell? ⟨w.heap.size + 1, 1, none⟩ = some (.int .i64 g.t) := (cell_heap hy _).trans rfl
    have x2 : Wa.cell? ⟨w.heap.size + 1, 2, none⟩ = some (.int .i64 g.k) := (cell_heap hy _).trans rfl
    have x3 : Wa.cell? ⟨w.heap.size + 1, 3, none⟩ = some (.int .i64 g.size) := (cell_heap hy _).trans rfl
    have x4 : Wa.cell? ⟨w.heap.size + 1, 4, none⟩ = some (.int .i64 g.id) := (cell_heap hy _).trans rfl
    have x5 : Wa.cell? ⟨w.heap.size + 1, 5, none⟩ = some (.int .i64 g.n) := (cell_heap hy _).trans rfl
    have x6 : Wa.cell? ⟨w.heap.size + 1, 6, none⟩ = some (.slice a1 (ints g.s).length d1) := (cell_heap hy _).trans rfl
    clear hx hy hWa p0 p1 p2 p3 p4 p5 p6 r0 r1 r2 r3 r4 r5 r6
    go_wp2_with (fail)
    refine (HQ.out _ HWa.out).mono ?_
    rintro e W9 ⟨rfl, hD⟩
    have HB := Lib.hid (HWa.out.trans (hD.below.mono HWa.out.size))
    clear hD
    go_wp2_with (fail)
    rw [rounds_succ]
    go_wp2_with (fail)
    go_ret
    exact ⟨rfl, HB.out⟩

end Go.Proofs.YthmkkbihfdcbiaaGreatDoor

/-! A configuration with another protocol. -/
namespace Go.Proofs.YthmkkbihfdcbiaaGreatDoor

open Go.RowKit Go.Deep

set_option linter.unusedVariables false

set_option linter.unusedSimpArgs false

open Go.Proofs.YthmkkbihfdcbiaaGreatDoorW.PrintWords

theorem by_any (n proto : Int) (plain rb sb : Bool) (ms ct fr : Int) (w : World) :
    Calls Tryz.prog 14 #[.int .i64 n, confV proto plain rb sb ms ct fr] w fun e w' => e = .returned (confV n plain rb sb ms ct fr) ∧ Below w.heap.size w w' :=
  laws_by.calls n proto plain rb sb ms ct fr _ _ _ _ _ _ _ w rfl

end Go.Proofs.YthmkkbihfdcbiaaGreatDoor

/-! One step alone: written and read back. -/
namespace Go.Proofs.YthmkkbihfdcbiaaGreatDoor

open Go.RowKit Go.Deep

set_option linter.unusedVariables false

set_option linter.unusedSimpArgs false

open Go.Proofs.YthmkkbihfdcbiaaGreatDoorW.PrintWords

theorem two_drew (w : World) (o1 o2 : Obj) : w.heap.size + 1 < ((w.alloc o1).alloc o2).drew.heap.size := by
  show w.heap.size + 1 < ((w.alloc o1).alloc o2).heap.size
  simp

theorem two_drew_at (w : World) (o1 o2 : Obj) : ((w.alloc o1).alloc o2).drew.heap[w.heap.size + 1]? = some o2 :=
  show ((w.alloc o1).alloc o2).heap[w.heap.size + 1]? = some o2 from heap_alloc_at (by simp) _

theorem two_drew0 (w : World) (o1 o2 : Obj) : w.heap.size < ((w.alloc o1).alloc o2).drew.heap.size := by
  show w.heap.size < ((w.alloc o1).alloc o2).heap.size
  simp <;> omega

theorem two_drew_at0 (w : World) (o1 o2 : Obj) : ((w.alloc o1).alloc o2).drew.heap[w.heap.size]? = some o1 :=
  show ((w.alloc o1).alloc o2).heap[w.heap.size]? = some o1 from heap_alloc_old (heap_alloc_new w _) _

set_option maxRecDepth 100000 in
set_option maxHeartbeats 2000000 in
theorem alone_any (proto : Int) (plain rb sb : Bool) (ms ct fr : Int) (hf : (cfgOf plain rb sb ms ct fr).fit) (o : WOp) (ro : ROp) (F : RGot → RGot) (op a1 a2 a3 a4 a5 : Int) (A : Option Addr) (nA cA : Nat)
    (Aw : Option Addr) (cw : Nat) (At : Option Addr) (ct' : Nat) (X : List UInt8) (zs : List Int) (g : RGot) (v : Value) (kb : Nat) (w : World) (hE : EofAt w)
    (hsw : ∀ W, Below w.heap.size w W → StepWrites W o op a1 a2 a3 a4 a5 A nA cA) (hsr : StepReads ro F op a1 a2 a3 a4 a5 A nA cA) (hcost : o.cost ≤ 1000000)
    (hw : (Kd.int .u8).C w Aw (ints X).length (ints X)) (hcw : (ints X).length ≤ cw) (ht : (Kd.int .u8).C w At zs.length zs) (hct : zs.length ≤ ct') (h8 : ∀ x ∈ zs, 0 ≤ x ∧ x < 256) (hzl : zs.length ≤ 1000000) (hv : IsB (Lib.byteCells g.s) v kb w)
    (hX1 : 1 ≤ X.length) (hX : encC proto (cfgOf plain rb sb ms ct fr) [o] = (X, 0)) {g0 : RGot} {st' : CSt} (hr : rdC proto (cfgOf plain rb sb ms ct fr) (CR0, X ++ toB zs) ro = some (g0, 0, (st', toB zs))) (hF : F g0 = g) :
    Calls Tryz.prog 20 #[confV proto plain rb sb ms ct fr, .agg #[.int .i64 op, .int .i64 a1, .int .i64 a2, .int .i64 a3, .int .i64 a4, .int .i64 a5, .slice A nA cA], .slice Aw (ints X).length cw, .slice At zs.length ct', gotV g v] w fun e w' => e = .returned (.bool true) ∧ Below w.heap.size w w' := by
  have HWT := Lib.hid (fun W b (hB : Below w.heap.size w W) hb hbl => Write_any proto plain rb sb ms ct fr o op a1 a2 a3 a4 a5 A nA cA W b (hsw W hB) (by omega) hb hbl (by rw [hX]))
  rw [hX] at HWT
  obtain ⟨av, cv, rfl, hcv, hCv⟩ := hv.ints
  clear hcv hCv
  have hXl : X.length ≤ 1000000 := by
    have h1 := enc_len proto (cfgOf plain rb sb ms ct fr) [o]
    rw [hX, costs_cons, costs_nil] at h1
    dsimp only at h1
    omega
  go_enter Tryz.func20, Tryz.ntmps20
  go_wp2_with (fail)
  obtain ⟨W0, hW0⟩ : ∃ W0, W0 = (((w.alloc (.cells #[.int .i64 proto, .bool plain, .bool rb, .bool sb, .int .i32 ms, .int .i32 ct, .int .i32 fr] 25)).alloc (.cells #[.int .i64 op, .int .i64 a1, .int .i64 a2, .int .i64 a3, .int .i64 a4, .int .i64 a5, .slice A nA cA] 46)).alloc (.cells #[.int .i64 0, .int .i64 g.t, .int .i64 g.k, .int .i64 g.size, .int .i64 g.id, .int .i64 g.n, .slice av (ints g.s).length cv] 48)).alloc (.cells #[.int .i64 op, .int .i64 a1, .int .i64 a2, .int .i64 a3, .int .i64 a4, .int .i64 a5, .slice A nA cA] 46) := ⟨_, rfl⟩
  have hs0 : W0.heap.size = w.heap.size + 1 + 1 + 1 + 1 := by rw [hW0]; simp
  have HBC := Lib.hid (show Box7 w.heap.size (.int .i64 proto) (.bool plain) (.bool rb) (.bool sb) (.int .i32 ms) (.int .i32 ct) (.int .i32 fr) W0 from by rw [hW0]; exact Box7.at_ (heap_alloc_old (heap_alloc_old (heap_alloc_old (heap_alloc_new w _) _) _) _))
  have HBS := Lib.hid (show Box7 (w.heap.size + 1) (.int .i64 op) (.int .i64 a1) (.int .i64 a2) (.int .i64 a3) (.int .i64 a4) (.int .i64 a5) (.slice A nA cA) W0 from by rw [hW0]; exact Box7.at_ (heap_alloc_old (heap_alloc_old (heap_alloc_at (by simp) _) _) _))
  have HBG := Lib.hid (show Box7 (w.heap.size + 1 + 1) (.int .i64 0) (.int .i64 g.t) (.int .i64 g.k) (.int .i64 g.size) (.int .i64 g.id) (.int .i64 g.n) (.slice av (ints g.s).length cv) W0 from by rw [hW0]; exact Box7.at_ (heap_alloc_old (heap_alloc_at (by simp) _) _))
  have HBR := Lib.hid (show Box7 (w.heap.size + 1 + 1 + 1) (.int .i64 op) (.int .i64 a1) (.int .i64 a2) (.int .i64 a3) (.int .i64 a4) (.int .i64 a5) (.slice A nA cA) W0 from by rw [hW0]; exact Box7.at_ (heap_alloc_at (by simp) _))
  have HB0 := Lib.hid (show Below w.heap.size w W0 from by rw [hW0]; exact ((((Below.refl _ w).alloc (Nat.le_refl _) _).alloc (by simp) _).alloc (by simp <;> omega) _).alloc (by simp <;> omega) _)
  rw [← hW0]
  clear hW0
  refine (HWT.out W0 _ HB0.out HBR.out (by omega)).mono ?_
  rintro e W1 ⟨v1, k1, q, cq, rfl, hi1, ⟨hq1, hcq⟩, hB1⟩
  obtain ⟨ao, ca, rfl, hca, hCa⟩ := hi1.ints
  have hql := World.block_lt_of_cell? W1 _ hq1
  dsimp only at hql
  have HW1 := Lib.hid (HB0.out.trans (hB1.mono (by omega)))
  have HB1 := Lib.hid hB1
  have hs1 := hB1.size
  have HEQ := Lib.hid (equal_any hCa hca (Kd.C_below hw HW1.out) hcw)
  have HCA := Lib.hid hCa
  have HQ1 := Lib.hid hq1
  clear hi1 hB1 hq1 hCa
  go_wp2_with (fail)
  refine HEQ.out.mono ?_
  rintro e W2 ⟨rfl, hD⟩
  simp only [decide_true]
  have HB2 := Lib.hid (HB1.out.trans (hD.below.mono hs1))
  have HD := Lib.hid hD.below
  have hq2 : W2.cell? ⟨q, 0, none⟩ = some (.int .i64 0) := (hD.below.cell (p := ⟨q, 0, none⟩) hql).trans HQ1.out
  clear hD
  have hs2 := HB2.out.size
  have hlt1 : w.heap.size < W2.heap.size := by omega
  have hlt2 : w.heap.size + 1 < W2.heap.size := by omega
  obtain ⟨p0, p1, p2, p3, p4, p5, p6⟩ := HBC.out.of HB2.out (by omega)
  obtain ⟨r0, r1, r2, r3, r4, r5, r6⟩ := HBS.out.of HB2.out (by omega)
  have HJ := Lib.hid (fun W blk (hB : Below W2.heap.size W2 W) (h0 : W.cell? ⟨blk, 0, none⟩ = some (.slice ao (ints X).length ca)) (h1 : W.cell? ⟨blk, 1, none⟩ = some (.slice At zs.length ct')) => joined_any (W := W) blk 2 [ints X, zs] (by simp) (by simp) (by simp) (by simp [ints_length]; omega) (fun j p hj => by
    match j, hj with
    | 0, hj => simp only [List.getElem?_cons_zero, Option.some.injEq] at hj; subst hj; exact ⟨_, _, h0, hca, Kd.C_below (Kd.C_below HCA.out HD.out) hB⟩
    | 1, hj => simp only [List.getElem?_cons_succ, List.getElem?_cons_zero, Option.some.injEq] at hj; subst hj; exact ⟨_, _, h1, hct, Kd.C_below (Kd.C_below ht (HB0.out.trans (HB2.out.mono (by omega)))) hB⟩
    | j + 2, hj => simp at hj))
  have HPS := Lib.hid (fun W (hB : Below W2.heap.size W2 W) => show W.cell? ⟨w.heap.size, 0, none⟩ = some (.int .i64 proto) ∧ W.cell? ⟨w.heap.size, 1, none⟩ = some (.bool plain) ∧ W.cell? ⟨w.heap.size, 2, none⟩ = some (.bool rb) ∧ W.cell? ⟨w.heap.size, 3, none⟩ = some (.bool sb) ∧ W.cell? ⟨w.heap.size, 4, none⟩ = some (.int .i32 ms) ∧ W.cell? ⟨w.heap.size, 5, none⟩ = some (.int .i32 ct) ∧ W.cell? ⟨w.heap.size, 6, none⟩ = some (.int .i32 fr) ∧ W.cell? ⟨w.heap.size + 1, 0, none⟩ = some (.int .i64 op) ∧ W.cell? ⟨w.heap.size + 1, 1, none⟩ = some (.int .i64 a1) ∧ W.cell? ⟨w.heap.size + 1, 2, none⟩ = some (.int .i64 a2) ∧ W.cell? ⟨w.heap.size + 1, 3, none⟩ = some (.int .i64 a3) ∧ W.cell? ⟨w.heap.size + 1, 4, none⟩ = some (.int .i64 a4) ∧ W.cell? ⟨w.heap.size + 1, 5, none⟩ = some (.int .i64 a5) ∧ W.cell? ⟨w.heap.size + 1, 6, none⟩ = some (.slice A nA cA) from by
    have hB' := HB2.out.trans (hB.mono hs2)
    obtain ⟨p0, p1, p2, p3, p4, p5, p6⟩ := HBC.out.of hB' (by omega)
    obtain ⟨r0, r1, r2, r3, r4, r5, r6⟩ := HBS.out.of hB' (by omega)
    exact ⟨p0, p1, p2, p3, p4, p5, p6, r0, r1, r2, r3, r4, r5, r6⟩)
  obtain ⟨ys, hys⟩ : ∃ ys : List Int, [ints X, zs].flatten = ys := ⟨_, rfl⟩
  have hysB : toB ys = X ++ toB zs := by
    rw [← hys]
    have := toB_ints X
    unfold toB at this ⊢
    simp [this]
  have hys8 : ∀ x ∈ ys, 0 ≤ x ∧ x < 256 := by
    rw [← hys]
    intro x hx
    simp only [List.flatten_cons, List.flatten_nil, List.append_nil, List.mem_append] at hx
    rcases hx with hx | hx
    · obtain ⟨y, _, rfl⟩ := List.mem_map.1 hx
      have := y.toNat_lt
      omega
    · exact h8 x hx
  have hysl : 1 ≤ ys.length ∧ ys.length ≤ 2000000 := by
    rw [← hys]
    simp [ints_length]
    omega
  rw [hys] at HJ
  have HRD := Lib.hid (fun W D cd b (hEW : EofAt W) (hD : (Kd.int .u8).C W D ys.length ys) hb hbl => Read_C proto plain rb sb ms ct fr hf ro F op a1 a2 a3 a4 a5 A nA cA hsr D cd ys b W hEW hD hys8 hysl.1 (by omega) hb hbl (by rw [hysB]; exact hr))
  have HEO := Lib.hid (fun W (hB : Below W2.heap.size W2 W) => hE.below (HB0.out.trans ((HB2.out.mono (by omega)).trans (hB.mono (by omega)))) hE.lt)
  clear hys hys8 hysB hr hsr h8
  go_wp2_with (fail)
  go_region_held3 (fun W' => W'.cell? ⟨w.heap.size, 0, none⟩ = some (.int .i64 proto) ∧ W'.cell? ⟨w.heap.size, 1, none⟩ = some (.bool plain) ∧ W'.cell? ⟨w.heap.size, 2, none⟩ = some (.bool rb) ∧ W'.cell? ⟨w.heap.size, 3, none⟩ = some (.bool sb) ∧ W'.cell? ⟨w.heap.size, 4, none⟩ = some (.int .i32 ms) ∧ W'.cell? ⟨w.heap.size, 5, none⟩ = some (.int .i32 ct) ∧ W'.cell? ⟨w.heap.size, 6, none⟩ = some (.int .i32 fr) ∧ W'.cell? ⟨w.heap.size + 1, 0, none⟩ = some (.int .i64 op) ∧ W'.cell? ⟨w.heap.size + 1, 1, none⟩ = some (.int .i64 a1) ∧ W'.cell? ⟨w.heap.size + 1, 2, none⟩ = some (.int .i64 a2) ∧ W'.cell? ⟨w.heap.size + 1, 3, none⟩ = some (.int .i64 a3) ∧ W'.cell? ⟨w.heap.size + 1, 4, none⟩ = some (.int .i64 a4) ∧ W'.cell? ⟨w.heap.size + 1, 5, none⟩ = some (.int .i64 a5) ∧ W'.cell? ⟨w.heap.size + 1, 6, none⟩ = some (.slice A nA cA)) (first | exact ⟨p0, p1, p2, p3, p4, p5, p6, r0, r1, r2, r3, r4, r5, r6⟩ | (simp [go_sem, *]; done) | exact HPS.out _ HB3.out | exact HPS.out _ (HB3.out.alloc HB3.out.size _) | exact HPS.out _ (HB3.out.alloc HB3.out.size _).drew | exact HPS.out _ HB3.out.drew | exact HPS.out _ HB4.out)
    (first
      | (go_at_call 19; refine (HJ.out _ _ (by repeat (first | (with_reducible exact Below.refl _ _) | (with_reducible refine Below.drew ?_) | (with_reducible refine Below.alloc ?_ (by simp <;> omega) _))) (by simp [go_sem]) (by simp [go_sem])).mono ?_; rintro e W3 ⟨v3, rfl, hR3, hB3⟩; obtain ⟨D, cd, rfl, hcd, hCd⟩ := Kd.R_reads hR3; have HRW := Lib.hid hB3; have HB3 := Lib.hid ((show Below W2.heap.size W2 _ from (by repeat (first | (with_reducible exact Below.refl _ _) | (with_reducible refine Below.drew ?_) | (with_reducible refine Below.alloc ?_ (by simp <;> omega) _)))).trans (hB3.mono (by simp <;> omega))); have HCD := Lib.hid hCd; clear hR3 hB3 hCd)
      | (go_at_call 25; with_reducible refine (HRD.out _ D cd _ (HEO.out _ (HB3.out.alloc HB3.out.size _)) (Kd.C_below HCD.out ((Below.refl _ W3).alloc (Nat.le_refl _) _)) (Box7.at_ (heap_alloc_new _ _)) (by simp)).mono ?_; rintro e W4 ⟨q4, cap4, v4, kb4, rfl, hG4, hv4, hB4⟩; have HB4 := Lib.hid ((HB3.out.alloc HB3.out.size _).trans (hB4.mono (by have := HB3.out.size; simp <;> omega))); have HG4 := Lib.hid hG4; have HV4 := Lib.hid hv4; clear hG4 hv4 hB4)
      | (go_at_call 25; with_reducible refine (HRD.out _ D cd _ (HEO.out _ HB3.out) HCD.out ?_ ?_).mono ?_; (first | exact Box7.at_ ((HRW.out.block _ (two_drew W2 _ _)).trans (two_drew_at W2 _ _)) | exact Box7.at_ ((HRW.out.block _ (two_drew0 W2 _ _)).trans (two_drew_at0 W2 _ _))); (first | exact Nat.lt_of_lt_of_le (two_drew W2 _ _) HRW.out.size | exact Nat.lt_of_lt_of_le (two_drew0 W2 _ _) HRW.out.size); rintro e W4 ⟨q4, cap4, v4, kb4, rfl, hG4, hv4, hB4⟩; have HB4 := Lib.hid (HB3.out.trans (hB4.mono HB3.out.size)); have HG4 := Lib.hid hG4; have HV4 := Lib.hid hv4; clear hG4 hv4 hB4))
  all_goals (
    have hs4 := HB4.out.size
    obtain ⟨s0, s1, s2, s3, s4, s5, s6⟩ := HBG.out.of (HB2.out.trans (HB4.out.mono hs2)) (by omega)
    have hzl2 : (toB zs).length = zs.length := by simp [toB]
    rw [hF] at HG4 HV4
    have hq4l := World.block_lt_of_cell? W4 _ HG4.out.1
    dsimp only at hq4l
    have HSG := Lib.hid (fun W b (hB : Below W4.heap.size W4 W) (hb : GotAt b 0 g (.slice av (ints g.s).length cv) W) => sameGot_one q4 b cap4 1 g v4 (.slice av (ints g.s).length cv) kb4 kb W (Box7.of HG4.out hB hq4l) hb (HV4.out.step (Step.ofBelow (S := []) hB) (by simp)) (hv.step (Step.ofBelow (S := []) (HB0.out.trans ((HB2.out.mono (by omega)).trans ((HB4.out.mono (by omega)).trans (hB.mono (by omega)))))) (by simp)))
    go_wp2_with (fail)
    refine (HSG.out _ W4.heap.size ((Below.refl _ W4).alloc (Nat.le_refl _) _) (Box7.at_ (heap_alloc_new W4 _))).mono ?_
    rintro e W5 ⟨rfl, hB5⟩
    have HB5 := Lib.hid (HB4.out.trans ((((Below.refl _ W4).alloc (Nat.le_refl _) _).trans (hB5.mono (by simp))).mono hs4))
    clear hB5
    go_wp2_with (fail)
    go_ret
    exact ⟨rfl, HB0.out.trans ((HB2.out.trans (HB5.out.mono hs2)).mono (by omega))⟩)
  done

end Go.Proofs.YthmkkbihfdcbiaaGreatDoor

/-! Numbers by seven bits, the lowest byte first, the highest first: the laws' own words for them. -/
namespace Go.Proofs.YthmkkbihfdcbiaaGreatDoor

open Go.RowKit Go.Deep

set_option linter.unusedVariables false

set_option linter.unusedSimpArgs false

open Go.Proofs.YthmkkbihfdcbiaaGreatDoorW.PrintWords

theorem u8_or128 : ∀ a : Fin 256, bits .or .u8 ((a.val : Nat) : Int) 128 = ((a.val % 128 + 128 : Nat) : Int) := by decide +kernel

theorem seven_l0 : ∀ (k N : Nat) (acc : List Int), N < 128 ^ (k + 1) → acc.length + k + 1 ≤ 1000 → laws_seven.l0 (k + 1) (N : Int) acc = some (acc ++ ints (Lib.uvarint N))
  | 0, N, acc, h, hl => by
    have hN : N < 128 := by simpa using h
    rw [laws_seven.l0, if_neg (by omega), if_pos (by omega), Lib.uvarint_small hN]
    simp [ints]
  | k + 1, N, acc, h, hl => by
    by_cases hN : N < 128
    · rw [laws_seven.l0, if_neg (by omega), if_pos (by omega), Lib.uvarint_small hN]
      simp [ints]
    · have hd : N / 128 < 128 ^ (k + 1) := by
        rw [Nat.div_lt_iff_lt_mul (by omega)]
        rw [Nat.pow_succ] at h
        exact h
      have e : (N : Int) / 128 = ((N / 128 : Nat) : Int) := by omega
      have e2 : bits .or .u8 ((N : Int) % 256) 128 = ((N % 128 + 128 : Nat) : Int) := by
        have := u8_or128 ⟨N % 256, by omega⟩
        rw [show ((N : Int) % 256) = ((N % 256 : Nat) : Int) by omega, this]
        simp only [Int.ofNat_inj]
        omega
      rw [laws_seven.l0, if_pos (by omega), if_pos (by omega), e, e2, seven_l0 k (N / 128) _ hd (by simp; omega), Lib.uvarint_big (x := N) (by omega)]
      have e3 : ((N % 128 + 128).toUInt8).toNat = N % 128 + 128 := by
        simp only [Nat.toUInt8, UInt8.toNat_ofNat']
        omega
      simp [ints, e3]
      omega

theorem seven_f (N : Nat) (h : N < 18446744073709551616) : laws_seven.f 10 (N : Int) = some (ints (Lib.uvarint N)) := by
  unfold laws_seven.f
  rw [seven_l0 9 N [] (Nat.lt_of_lt_of_le h (by decide)) (by simp)]
  rfl

theorem seven_any (N : Nat) (h : N < 18446744073709551616) (w : World) : Calls Tryz.prog 18 #[.int .u64 (N : Int)] w fun e w' => ∃ v : Value, e = .returned v ∧ Kd.R (Kd.int .u8) 5 w' w.heap.size (fun _ => True) v (ints (Lib.uvarint N)) ∧ Below w.heap.size w w' :=
  laws_seven.calls 10 _ _ w (seven_f N h)

end Go.Proofs.YthmkkbihfdcbiaaGreatDoor

/-! Numbers by the compact protocol, written and read back: plain. -/
namespace Go.Proofs.YthmkkbihfdcbiaaGreatDoor

open Go.RowKit Go.Deep

set_option linter.unusedVariables false

set_option linter.unusedSimpArgs false

theorem encC_one (c : Cfg) (o : WOp) (hf : o.fit) : encC 1 c [o] = ((cmpRun CW0 o).2.1, (cmpRun CW0 o).2.2) := by
  have h : (cmpRun CW0 o).2.1.length ≤ o.cost := cmpO_len CW0 okW_0 o hf
  unfold encC
  rw [if_pos rfl]
  unfold runs
  simp only [cmpStep, cmpO, List.take_of_length_le h, List.nil_append, runs]
  split
  · next h2 => rw [h2]
  · rfl

end Go.Proofs.YthmkkbihfdcbiaaGreatDoor

/-! Begins of lists, sets and maps by the compact protocol, written and read back: plain. -/
namespace Go.Proofs.YthmkkbihfdcbiaaGreatDoor

open Go.RowKit Go.Deep

set_option linter.unusedVariables false

set_option linter.unusedSimpArgs false

open Go.Proofs.YthmkkbihfdcbiaaGreatDoorW.PrintWords

theorem wide_of {proto : Int} {plain rb sb : Bool} {ms ct fr : Int} (h : laws_isWide.f proto plain rb sb ms ct fr = some true) : 1048576 ≤ (cfgOf plain rb sb ms ct fr).message ∧ 65536 ≤ (cfgOf plain rb sb ms ct fr).container := by
  unfold laws_isWide.f at h
  unfold Cfg.message Cfg.container orElse cfgOf
  cases plain
  · simp only [Bool.false_eq_true, if_false] at h ⊢
    by_cases h1 : ms ≤ 0
    · rw [if_pos h1] at h ⊢
      by_cases h2 : ct ≤ 0
      · rw [if_pos h2]; omega
      · rw [if_neg h2] at h ⊢
        by_cases h3 : ct > 65536
        · omega
        · rw [if_neg h3] at h; simp at h
    · rw [if_neg h1] at h ⊢
      by_cases h4 : ms > 1048576
      · rw [if_pos h4] at h
        by_cases h2 : ct ≤ 0
        · rw [if_pos h2]; omega
        · rw [if_neg h2] at h ⊢
          by_cases h3 : ct > 65536
          · omega
          · rw [if_neg h3] at h; simp at h
      · rw [if_neg h4] at h; simp at h
  · simp

theorem isT_of {t : Int} (h : laws_isType.f t = some true) : t = 2 ∨ t = 3 ∨ t = 4 ∨ t = 6 ∨ t = 8 ∨ t = 10 ∨ t = 11 ∨ t = 12 ∨ t = 13 ∨ t = 14 ∨ t = 15 ∨ t = 16 := by
  unfold laws_isType.f at h
  by_cases h1 : t = 2
  · omega
  rw [if_neg h1] at h
  by_cases h1 : t = 3
  · omega
  rw [if_neg h1] at h
  by_cases h1 : t = 4
  · omega
  rw [if_neg h1] at h
  by_cases h1 : t = 6
  · omega
  rw [if_neg h1] at h
  by_cases h1 : t = 8
  · omega
  rw [if_neg h1] at h
  by_cases h1 : t = 10
  · omega
  rw [if_neg h1] at h
  by_cases h1 : t ≥ 11
  · rw [if_pos h1] at h
    simp only [Option.some.injEq, decide_eq_true_eq] at h
    omega
  · rw [if_neg h1] at h
    simp at h

theorem isType_f (t : Int) : ∃ b, laws_isType.f t = some b := by
  unfold laws_isType.f
  (repeat' split) <;> exact ⟨_, rfl⟩

theorem isWide_f (proto : Int) (plain rb sb : Bool) (ms ct fr : Int) : ∃ b, laws_isWide.f proto plain rb sb ms ct fr = some b := by
  unfold laws_isWide.f
  (repeat' split) <;> exact ⟨_, rfl⟩

/-- A type by its number in the compact protocol, back. -/
theorem cType_cCode {t : Int} (h : laws_isType.f t = some true) : laws_compactType.f t = some (cCode t : Int) ∧ cType (cCode t : Int) = some t ∧ 1 ≤ cCode t ∧ cCode t ≤ 13 ∧ t % 256 = t ∧ 0 < t := by
  rcases isT_of h with rfl | rfl | rfl | rfl | rfl | rfl | rfl | rfl | rfl | rfl | rfl | rfl <;> exact ⟨by decide, by decide, by decide, by decide, by decide, by decide⟩

theorem contK_0 (c : Cfg) (n m rem : Int) (hc : n ≤ c.container) (hm : n * m ≤ c.message) (h0 : 0 ≤ n) (h1 : n ≤ 4096) (hm0 : 0 ≤ m) (hm1 : m ≤ 32) (hr : 32 * n ≤ rem) : contK c n m rem = 0 := by
  have h2 : n * m ≤ n * 32 := Int.mul_le_mul_of_nonneg_left hm1 h0
  have h3 : 0 ≤ n * m := Int.mul_nonneg h0 hm0
  unfold contK sizeK
  rw [if_neg (by omega), if_neg (by omega), if_neg (by omega), if_neg (by omega), if_neg (by omega), if_neg (by omega), if_neg (by omega)]

theorem wr_map0 (k t : Int) : (cmpRun CW0 (.mapB k t 0)).2.1 = [0] ∧ (cmpRun CW0 (.mapB k t 0)).2.2 = 0 := ⟨rfl, rfl⟩

theorem wr_map (k t n : Int) (h0 : 0 < n) (h1 : n ≤ 4096) : (cmpRun CW0 (.mapB k t n)).2.1 = Lib.uvarint n.toNat ++ [(cCode k * 16 + cCode t).toUInt8] ∧ (cmpRun CW0 (.mapB k t n)).2.2 = 0 := by
  refine ⟨?_, rfl⟩
  show (if n = 0 then [0] else Lib.uvarint (n % 4294967296).toNat ++ [(cCode k * 16 + cCode t).toUInt8]) = _
  rw [if_neg (by omega), show n % 4294967296 = n by omega]

theorem rdC_map (c : Cfg) (L : List UInt8) : rdC 1 c (CR0, L) .mapB = (v64 L).bind fun a => cRdMap c CR0 a.1 a.2 := by
  unfold rdC
  rw [if_pos rfl]
  rfl

theorem rd_map0 (c : Cfg) (hc : 65536 ≤ c.container) (hm : 1048576 ≤ c.message) (R : List UInt8) : rdC 1 c (CR0, [0] ++ R) .mapB = some ({}, 0, (CR0, R)) := by
  rw [rdC_map]
  have e : v64 ([0] ++ R) = some (0, R) := by
    have h := v64_uvarint 0 R (by omega)
    rw [Lib.uvarint_small (by omega), show wrap64 ((0 : Nat) : Int) = 0 from by unfold wrap64; omega] at h
    exact h
  rw [e, Option.bind_some]
  unfold cRdMap
  dsimp only
  rw [if_pos (show wrap32 0 = 0 by unfold wrap32; omega), contK_0 c 0 _ _ (by omega) (by omega) (by omega) (by omega) (by have := minC_range 0; omega) (by have := minC_range 0; omega) (by omega)]

theorem byte_div (a b : Nat) (ha : a ≤ 15) (hb : b ≤ 15) : ((a * 16 + b).toUInt8).toNat = a * 16 + b := by
  simp only [Nat.toUInt8, UInt8.toNat_ofNat']
  omega

theorem w64_id {n : Int} (h0 : 0 < n) (h1 : n ≤ 4096) : wrap64 ((n.toNat : Nat) : Int) = n := by unfold wrap64; omega

theorem w32_id {n : Int} (h0 : 0 < n) (h1 : n ≤ 4096) : wrap32 n = n := by unfold wrap32; omega

theorem v64_small {n : Int} (h0 : 0 < n) (h1 : n ≤ 4096) (R : List UInt8) : v64 (Lib.uvarint n.toNat ++ R) = some (n, R) := by
  have hv := v64_uvarint n.toNat R (by omega)
  rw [w64_id h0 h1] at hv
  exact hv

theorem two_div (a b : Nat) (ha : a ≤ 13) (hb : b ≤ 13) : (((a * 16 + b).toUInt8.toNat : Nat) : Int) / 16 = a ∧ (((a * 16 + b).toUInt8.toNat : Nat) : Int) % 16 = b := by
  rw [byte_div _ _ (by omega) (by omega)]
  omega

theorem contK_32 (c : Cfg) (n m rem : Int) (hc : 65536 ≤ c.container) (hm : 1048576 ≤ c.message) (h0 : 0 < n) (h1 : n ≤ 4096) (hm0 : 0 ≤ m) (hm1 : m ≤ 32) (hr : 32 * n ≤ rem) : contK c n m rem = 0 := by
  have h2 : n * m ≤ n * 32 := Int.mul_le_mul_of_nonneg_left hm1 (by omega)
  exact contK_0 c n m rem (by omega) (by omega) (by omega) h1 hm0 hm1 hr

theorem rdMap_of (c : Cfg) (k t n : Int) (y : UInt8) (R : List UInt8) (hn : ¬ wrap32 n = 0) (hk : cType ((y.toNat : Int) / 16) = some k) (ht : cType ((y.toNat : Int) % 16) = some t) (hw : wrap32 n = n) (hC : contK c n (minC k + minC t) R.length = 0) :
    cRdMap c CR0 n (y :: R) = some ({ k := k, t := t, size := n }, 0, (CR0, R)) := by
  unfold cRdMap
  rw [if_neg hn]
  dsimp only
  rw [hk, ht, Option.bind_some, Option.map_some, hw, hC]

theorem rd_map (c : Cfg) (hc : 65536 ≤ c.container) (hm : 1048576 ≤ c.message) {k t : Int} (hk : laws_isType.f k = some true) (ht : laws_isType.f t = some true) (n : Int) (h0 : 0 < n) (h1 : n ≤ 4096) (R : List UInt8) (hR : 32 * n ≤ R.length) :
    rdC 1 c (CR0, (Lib.uvarint n.toNat ++ [(cCode k * 16 + cCode t).toUInt8]) ++ R) .mapB = some ({ k := k, t := t, size := n }, 0, (CR0, R)) := by
  have hk5 := cType_cCode hk
  have ht5 := cType_cCode ht
  have hmk := minC_range k
  have hmt := minC_range t
  have hC := contK_32 c n (minC k + minC t) R.length hc hm h0 h1 (by omega) (by omega) hR
  have hd := two_div (cCode k) (cCode t) hk5.2.2.2.1 ht5.2.2.2.1
  have hw := w32_id h0 h1
  rw [List.append_assoc, rdC_map, v64_small h0 h1, Option.bind_some]
  exact rdMap_of c k t n _ R (by rw [hw]; omega) (by rw [hd.1]; exact hk5.2.1) (by rw [hd.2]; exact ht5.2.1) hw hC

end Go.Proofs.YthmkkbihfdcbiaaGreatDoor

/-! A made row of zeros; begins of lists and sets by the compact protocol: plain. -/
namespace Go.Proofs.YthmkkbihfdcbiaaGreatDoor

open Go.RowKit Go.Deep

set_option linter.unusedVariables false

set_option linter.unusedSimpArgs false

open Go.Proofs.YthmkkbihfdcbiaaGreatDoorW.PrintWords

theorem C_one1 {q : Nat} {x : Int} {W : World} (h : W.cell? ⟨q, 0, none⟩ = some (.int .u8 x)) : (Kd.int .u8).C W (some ⟨q, 0, none⟩) 1 [x] := by
  refine ⟨rfl, by simp, fun _ => ⟨_, rfl, fun j p hj => ⟨[.int .u8 p], rfl, rfl, fun i u hu => ?_⟩⟩⟩
  match j, hj with
  | 0, hj =>
    simp only [List.getElem?_cons_zero, Option.some.injEq] at hj
    subst hj
    cases i with
    | succ i => simp at hu
    | zero =>
      simp only [List.getElem?_cons_zero, Option.some.injEq] at hu
      subst hu
      rw [Lib.addr_add]
      simpa using h
  | j + 1, hj => simp at hj

theorem C_zeros {q n : Nat} {W : World} (hn : n ≤ 1000000) (h : W.heap[q]? = some (.cells (madeCells #[.int .u8 0] n) 5 (0, 0))) : (Kd.int .u8).C W (some ⟨q, 0, none⟩) n (List.replicate n 0) := by
  refine ⟨by simp, by omega, fun _ => ⟨_, rfl, fun j p hj => ⟨[.int .u8 p], rfl, rfl, fun i u hu => ?_⟩⟩⟩
  have hj1 : j < n := by
    have := (List.getElem?_eq_some_iff.1 hj).1
    simpa using this
  have hj2 : p = 0 := by
    rw [List.getElem?_replicate_of_lt hj1] at hj
    exact (Option.some.inj hj).symm
  subst hj2
  cases i with
  | succ i => simp at hu
  | zero =>
    simp only [List.getElem?_cons_zero, Option.some.injEq] at hu
    subst hu
    rw [Lib.addr_add]
    rw [cell_heap h]
    have e := toList_madeCells_one (.int .u8 0) n
    rw [← Array.getElem?_toList, e]
    show (List.replicate n (Value.int .u8 0))[0 + j * 1 + 0]? = _
    rw [show 0 + j * 1 + 0 = j by omega]
    exact List.getElem?_replicate_of_lt hj1

theorem info_made : (Tryz.prog.info? 5).map (fun i => (i.zero, i.size, i.bytes)) = some (some (.int .u8 0), 1, 1) := by kernel_rfl

theorem mk_any (m : Nat) (hm : m ≤ 1000000) (w : World) : (Instr.makeSlice 26 (.int .i64 (m : Int)) (.int .i64 (m : Int))).run Tryz.prog w = .ok (.slice (some ⟨w.heap.size, 0, none⟩) m m) (w.alloc (.cells (madeCells #[.int .u8 0] m) 5)) :=
  run_make_row' (P := Tryz.prog) 26 5 (.int .u8 0) 1 Tryz.underlying26 info_made rfl .i64 .i64 m (by omega) (by omega) w

theorem rdC_lst (c : Cfg) (x : UInt8) (L : List UInt8) : rdC 1 c (CR0, x :: L) .lstB = cRdLst c CR0 x L := by
  unfold rdC
  rw [if_pos rfl]
  rfl

theorem rdC_set (c : Cfg) (x : UInt8) (L : List UInt8) : rdC 1 c (CR0, x :: L) .setB = cRdLst c CR0 x L := by
  unfold rdC
  rw [if_pos rfl]
  rfl

theorem contK_16 (c : Cfg) (n m rem : Int) (hc : 65536 ≤ c.container) (hm : 1048576 ≤ c.message) (h0 : 0 ≤ n) (h1 : n ≤ 4096) (hm0 : 0 ≤ m) (hm1 : m ≤ 16) (hr : 16 * n ≤ rem) : contK c n m rem = 0 := by
  have h2 : n * m ≤ n * 16 := Int.mul_le_mul_of_nonneg_left hm1 h0
  have h3 : 0 ≤ n * m := Int.mul_nonneg h0 hm0
  unfold contK sizeK
  rw [if_neg (by omega), if_neg (by omega), if_neg (by omega), if_neg (by omega), if_neg (by omega), if_neg (by omega), if_neg (by omega)]

theorem rdLst_near (c : Cfg) (t : Int) (n : Nat) (x : UInt8) (R : List UInt8) (hx : x.toNat / 16 = n) (h15 : ¬ n = 15) (ht : cType ((x.toNat : Int) % 16) = some t) (hC : contK c (n : Int) (minC t) R.length = 0) :
    cRdLst c CR0 x R = some ({ t := t, size := n }, 0, (CR0, R)) := by
  unfold cRdLst cSize
  rw [hx, if_neg h15, Option.bind_some, ht, Option.map_some]
  dsimp only
  rw [hC]

theorem rdLst_far (c : Cfg) (t n : Int) (x : UInt8) (L R : List UInt8) (hx : x.toNat / 16 = 15) (hv : v64 L = some (n, R)) (hw : wrap32 n = n) (ht : cType ((x.toNat : Int) % 16) = some t) (hC : contK c n (minC t) R.length = 0) :
    cRdLst c CR0 x L = some ({ t := t, size := n }, 0, (CR0, R)) := by
  unfold cRdLst cSize
  rw [hx, if_pos rfl, hv, Option.map_some, Option.bind_some, ht, Option.map_some]
  dsimp only
  rw [hw, hC]

theorem low_div (a b : Nat) (ha : a ≤ 15) (hb : b ≤ 13) : (a * 16 + b).toUInt8.toNat / 16 = a ∧ (((a * 16 + b).toUInt8.toNat : Nat) : Int) % 16 = b := by
  rw [byte_div _ _ (by omega) (by omega)]
  omega

theorem rdLst_small (c : Cfg) (hc : 65536 ≤ c.container) (hm : 1048576 ≤ c.message) {t : Int} (ht : laws_isType.f t = some true) (n : Nat) (h1 : n ≤ 14) (R : List UInt8) (hR : 16 * (n : Int) ≤ R.length) :
    cRdLst c CR0 (n * 16 + cCode t).toUInt8 R = some ({ t := t, size := n }, 0, (CR0, R)) := by
  have hd := low_div n (cCode t) (by omega) (cType_cCode ht).2.2.2.1
  exact rdLst_near c t n _ R hd.1 (by omega) (by rw [hd.2]; exact (cType_cCode ht).2.1) (contK_16 c n _ _ hc hm (by omega) (by omega) (by have := minC_range t; omega) (minC_range t).2 hR)

theorem two40 (t : Int) : 240 + cCode t = 15 * 16 + cCode t := by omega

theorem rdLst_big (c : Cfg) (hc : 65536 ≤ c.container) (hm : 1048576 ≤ c.message) {t : Int} (ht : laws_isType.f t = some true) (n : Int) (h0 : 15 ≤ n) (h1 : n ≤ 4096) (R : List UInt8) (hR : 16 * n ≤ R.length) :
    cRdLst c CR0 (240 + cCode t).toUInt8 (Lib.uvarint n.toNat ++ R) = some ({ t := t, size := n }, 0, (CR0, R)) := by
  have hd := low_div 15 (cCode t) (Nat.le_refl _) (cType_cCode ht).2.2.2.1
  rw [← two40 t] at hd
  exact rdLst_far c t n _ _ R hd.1 (v64_small (by omega) h1 R) (w32_id (by omega) h1) (by rw [hd.2]; exact (cType_cCode ht).2.1) (contK_16 c n _ _ hc hm (by omega) h1 (by have := minC_range t; omega) (minC_range t).2 hR)

theorem wr_lst_small (t : Int) (n : Nat) (h1 : n ≤ 14) : (cmpRun CW0 (.lstB t n)).2.1 = [(n * 16 + cCode t).toUInt8] ∧ (cmpRun CW0 (.setB t n)).2.1 = [(n * 16 + cCode t).toUInt8] := by
  have e : (((n : Int) % 16).toNat) = n := by omega
  constructor
  · show (if (n : Int) ≤ 14 then [(((n : Int) % 16).toNat * 16 + cCode t).toUInt8] else (240 + cCode t).toUInt8 :: Lib.uvarint ((n : Int) % 4294967296).toNat) = _
    rw [if_pos (by omega), e]
  · show (if (n : Int) ≤ 14 then [(((n : Int) % 16).toNat * 16 + cCode t).toUInt8] else (240 + cCode t).toUInt8 :: Lib.uvarint ((n : Int) % 4294967296).toNat) = _
    rw [if_pos (by omega), e]

theorem wr_lst_big (t : Int) (n : Nat) (h0 : 15 ≤ n) (h1 : n ≤ 4096) : (cmpRun CW0 (.lstB t n)).2.1 = (240 + cCode t).toUInt8 :: Lib.uvarint n ∧ (cmpRun CW0 (.setB t n)).2.1 = (240 + cCode t).toUInt8 :: Lib.uvarint n := by
  have e : (((n : Int) % 4294967296).toNat) = n := by omega
  constructor
  · show (if (n : Int) ≤ 14 then [(((n : Int) % 16).toNat * 16 + cCode t).toUInt8] else (240 + cCode t).toUInt8 :: Lib.uvarint ((n : Int) % 4294967296).toNat) = _
    rw [if_neg (by omega), e]
  · show (if (n : Int) ≤ 14 then [(((n : Int) % 16).toNat * 16 + cCode t).toUInt8] else (240 + cCode t).toUInt8 :: Lib.uvarint ((n : Int) % 4294967296).toNat) = _
    rw [if_neg (by omega), e]

end Go.Proofs.YthmkkbihfdcbiaaGreatDoor

/-! Begins of a list and of a set, written and read back: the law's helper. -/
namespace Go.Proofs.YthmkkbihfdcbiaaGreatDoor

open Go.RowKit Go.Deep

set_option linter.unusedVariables false

set_option linter.unusedSimpArgs false

open Go.Proofs.YthmkkbihfdcbiaaGreatDoorW.PrintWords

set_option maxRecDepth 100000 in
set_option maxHeartbeats 2000000 in
theorem lists_any (plain rb sb : Bool) (ms ct fr : Int) (hf32 : (cfgOf plain rb sb ms ct fr).fit) (t : Int) (ht : t % 256 = t) (N : Nat) (hN : N ≤ 4096) (D : Option Addr) (cd : Nat) (X : List UInt8) (A : Option Addr) (ca : Nat) (sv : List Int) (w : World) (hE : EofAt w)
    (hD : (Kd.int .u8).C w D (ints X).length (ints X)) (hcd : (ints X).length ≤ cd) (hX1 : 1 ≤ X.length) (hA : (Kd.int .u8).C w A sv.length sv) (hca : sv.length ≤ ca) (h8 : ∀ x ∈ sv, 0 ≤ x ∧ x < 256) (hl : sv.length ≤ 65536)
    (hx1 : (cmpRun CW0 (.lstB t N)).2.1 = X) (hx2 : (cmpRun CW0 (.setB t N)).2.1 = X)
    (hr1 : ∀ R : List UInt8, 16 * (N : Int) ≤ R.length → rdC 1 (cfgOf plain rb sb ms ct fr) (CR0, X ++ R) .lstB = some ({ t := t, size := N }, 0, (CR0, R)))
    (hr2 : ∀ R : List UInt8, 16 * (N : Int) ≤ R.length → rdC 1 (cfgOf plain rb sb ms ct fr) (CR0, X ++ R) .setB = some ({ t := t, size := N }, 0, (CR0, R))) :
    Calls Tryz.prog 28 #[confV 1 plain rb sb ms ct fr, .int .i64 t, .int .i64 N, .slice D (ints X).length cd, .slice A sv.length ca] w fun e w' => e = .returned (.bool true) ∧ Below w.heap.size w w' := by
  have hmk : ∀ w : World, (Instr.makeSlice 26 (.int .i64 (16 * (N : Int))) (.int .i64 (16 * (N : Int)))).run Tryz.prog w = .ok (.slice (some ⟨w.heap.size, 0, none⟩) (16 * N) (16 * N)) (w.alloc (.cells (madeCells #[.int .u8 0] (16 * N)) 5)) := fun w => by
    rw [show 16 * (N : Int) = ((16 * N : Nat) : Int) by omega]
    exact mk_any (16 * N) (by omega) w
  obtain ⟨X6, hX6⟩ : ∃ X6, X6 = ((w.alloc (.cells #[.int .i64 1, .bool plain, .bool rb, .bool sb, .int .i32 ms, .int .i32 ct, .int .i32 fr] 25)).alloc (.cells (madeCells #[.int .u8 0] (16 * N)) 5)).alloc (.cells #[.slice A sv.length ca, .slice (some ⟨w.heap.size + 1, 0, none⟩) (16 * N) (16 * N)] 26) := ⟨_, rfl⟩
  have hB6 : Below w.heap.size w X6 := by rw [hX6]; exact (((Below.refl _ w).alloc (Nat.le_refl _) _).alloc (by simp) _).alloc (by simp <;> omega) _
  have h60 : X6.heap[w.heap.size + 1 + 1]? = some (.cells #[.slice A sv.length ca, .slice (some ⟨w.heap.size + 1, 0, none⟩) (16 * N) (16 * N)] 26 (0, 0)) := by rw [hX6]; exact heap_alloc_at (by simp) _
  have h61 : X6.heap[w.heap.size + 1]? = some (.cells (madeCells #[.int .u8 0] (16 * N)) 5 (0, 0)) := by rw [hX6]; exact heap_alloc_old (heap_alloc_at (by simp) _) _
  have hA6 := Kd.C_below hA hB6
  have HJ := Lib.hid (joined_any (W := X6) (w.heap.size + 1 + 1) 2 [sv, List.replicate (16 * N) 0] (by simp) (by simp) (by simp) (by simp; omega) (fun j p hj => by
    match j, hj with
    | 0, hj => simp only [List.getElem?_cons_zero, Option.some.injEq] at hj; subst hj; exact ⟨A, ca, (cell_heap h60 0).trans rfl, hca, hA6⟩
    | 1, hj => simp only [List.getElem?_cons_succ, List.getElem?_cons_zero, Option.some.injEq] at hj; subst hj; exact ⟨some ⟨w.heap.size + 1, 0, none⟩, 16 * N, (cell_heap h60 1).trans (by simp), by simp, by rw [List.length_replicate]; exact C_zeros (by omega) h61⟩
    | j + 2, hj => simp at hj))
  have hc6 : X6.heap[w.heap.size]? = some (.cells #[.int .i64 1, .bool plain, .bool rb, .bool sb, .int .i32 ms, .int .i32 ct, .int .i32 fr] 25 (0, 0)) := by rw [hX6]; exact heap_alloc_old (heap_alloc_old (heap_alloc_new w _) _) _
  have HPS := Lib.hid (fun W (hB : Below X6.heap.size X6 W) => (Box7.at_ hc6).of hB (lt_heap hc6))
  obtain ⟨zs2, hzs2⟩ : ∃ zs2, [sv, List.replicate (16 * N) (0 : Int)].flatten = zs2 := ⟨_, rfl⟩
  have hz8 : ∀ x ∈ zs2, 0 ≤ x ∧ x < 256 := by
    intro x hx
    rw [← hzs2] at hx
    simp only [List.flatten_cons, List.flatten_nil, List.append_nil, List.mem_append, List.mem_replicate] at hx
    rcases hx with hx | ⟨_, rfl⟩
    · exact h8 x hx
    · omega
  have hzl : zs2.length = sv.length + 16 * N := by rw [← hzs2]; simp
  have hq1 : encC 1 (cfgOf plain rb sb ms ct fr) [.lstB t N] = (X, 0) := by
    rw [encC_one _ (.lstB t N) ⟨by omega, by omega⟩, hx1]
    rfl
  have hq2 : encC 1 (cfgOf plain rb sb ms ct fr) [.setB t N] = (X, 0) := by
    rw [encC_one _ (.setB t N) ⟨by omega, by omega⟩, hx2]
    rfl
  have HA1 := Lib.hid (fun W (Dz : Option Addr) (cz : Nat) (hB : Below w.heap.size w W) (hz : (Kd.int .u8).C W Dz zs2.length zs2) (hcz : zs2.length ≤ cz) => alone_any 1 plain rb sb ms ct fr hf32 (.lstB (t % 256) N) .lstB (fun g => { t := g.t, size := g.size }) 9 t 0 N 0 0 none 0 0 D cd Dz cz X zs2 { t := t, size := N } (.slice none 0 0) 0 W (hE.below hB hE.lt) (fun W' _ => sw_lst W' t N 0 0 0 none 0 0 (by omega) (by omega)) (sr_lst t 0 N 0 0 none 0 0) (by show 32 ≤ 1000000; omega) (Kd.C_below hD hB) hcd hz hcz hz8 (by omega) ⟨0, .inl ⟨rfl, rfl⟩⟩ hX1
    (by rw [ht]; exact hq1) (hr1 (toB zs2) (by rw [toB_len]; omega)) rfl)
  have HA2 := Lib.hid (fun W (Dz : Option Addr) (cz : Nat) (hB : Below w.heap.size w W) (hz : (Kd.int .u8).C W Dz zs2.length zs2) (hcz : zs2.length ≤ cz) => alone_any 1 plain rb sb ms ct fr hf32 (.setB (t % 256) N) .setB (fun g => { t := g.t, size := g.size }) 11 t 0 N 0 0 none 0 0 D cd Dz cz X zs2 { t := t, size := N } (.slice none 0 0) 0 W (hE.below hB hE.lt) (fun W' _ => sw_set W' t N 0 0 0 none 0 0 (by omega) (by omega)) (sr_set t 0 N 0 0 none 0 0) (by show 32 ≤ 1000000; omega) (Kd.C_below hD hB) hcd hz hcz hz8 (by omega) ⟨0, .inl ⟨rfl, rfl⟩⟩ hX1
    (by rw [ht]; exact hq2) (hr2 (toB zs2) (by rw [toB_len]; omega)) rfl)
  rw [hzs2] at HJ
  simp only [confV, gotV, List.length_cons, List.length_nil, Nat.zero_add, Nat.reduceAdd] at HA1 HA2 HJ
  have HB6 := Lib.hid hB6
  clear hzl hz8 hB6 h60 h61 hA6 hc6 hq1 hq2 hx1 hx2 hr1 hr2 hX1 hl h8 hca hA hcd hD hE ht hf32
  go_enter Tryz.func28, Tryz.ntmps28
  go_wp2_with (fail)
  rw [← hX6]
  refine HJ.out.mono ?_
  rintro e W7 ⟨v7, rfl, hR7, hB7⟩
  obtain ⟨Dz, cz, rfl, hcz, hCz⟩ := Kd.R_reads hR7
  have HC := Lib.hid hB7
  have HCZ := Lib.hid hCz
  have HCAZ := Lib.hid hcz
  have hzl2 : zs2.length = zs2.length := rfl
  clear hR7 hB7 hCz hcz hX6 hzs2
  have HR := Lib.hid (HC.out.alloc HC.out.size (.cells #[.int .i64 0, .int .i64 t, .int .i64 0, .int .i64 N, .int .i64 0, .int .i64 0, .slice none 0 0] 48))
  have HRZ := Lib.hid ((Below.refl _ W7).alloc (Nat.le_refl _) (.cells #[.int .i64 0, .int .i64 t, .int .i64 0, .int .i64 N, .int .i64 0, .int .i64 0, .slice none 0 0] 48))
  obtain ⟨p0, p1, p2, p3, p4, p5, p6⟩ := HPS.out _ HR.out
  go_wp2_with (fail)
  refine (HA1.out _ Dz cz (HB6.out.trans (HR.out.mono HB6.out.size)) (Kd.C_below HCZ.out HRZ.out) HCAZ.out).mono ?_
  rintro e W9 ⟨rfl, hB9⟩
  have HR9 := Lib.hid (HR.out.trans (hB9.mono HR.out.size))
  have HRZ9 := Lib.hid (HRZ.out.trans (hB9.mono HRZ.out.size))
  obtain ⟨q0, q1, q2, q3, q4, q5, q6⟩ := (Box7.at_ (heap_alloc_new W7 (.cells #[.int .i64 0, .int .i64 t, .int .i64 0, .int .i64 N, .int .i64 0, .int .i64 0, .slice none 0 0] 48))).of hB9 (by simp)
  clear hB9
  obtain ⟨r0, r1, r2, r3, r4, r5, r6⟩ := HPS.out _ HR9.out
  go_wp2_with (fail)
  refine (HA2.out _ Dz cz (HB6.out.trans (HR9.out.mono HB6.out.size)) (Kd.C_below HCZ.out HRZ9.out) HCAZ.out).mono ?_
  rintro e W10 ⟨rfl, hB10⟩
  have HR10 := Lib.hid (HR9.out.trans (hB10.mono HR9.out.size))
  clear hB10
  go_wp2_with (fail)
  go_ret
  exact ⟨rfl, HB6.out.trans (HR10.out.mono HB6.out.size)⟩

end Go.Proofs.YthmkkbihfdcbiaaGreatDoor

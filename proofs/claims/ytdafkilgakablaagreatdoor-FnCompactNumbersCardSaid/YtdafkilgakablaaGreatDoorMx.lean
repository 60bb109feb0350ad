/- One step alone, written and read back. No condition. -/
import Derived.Test.YtdafkilgakablaaGreatDoorMn
import Derived.Test.YtdafkilgakablaaGreatDoorMv4
import Derived.Test.YtdafkilgakablaaGreatDoorMr
import Derived.Deep.QuietTactic
import Derived.BigQuiet
import Derived.Test.YtdafkilgakablaaGreatDoorMr2
import Derived.Test.YtdafkilgakablaaGreatDoorMg1
import Derived.Test.YtdafkilgakablaaGreatDoorMb1
import Derived.Test.YtdafkilgakablaaGreatDoorMd1
/-! Steps that are written and steps that are read: which calls they come to. -/
namespace Go.Proofs.YtdafkilgakablaaGreatDoor

open Go.RowKit Go.Deep

set_option linter.unusedVariables false

set_option linter.unusedSimpArgs false

open Go.Proofs.YtdafkilgakablaaGreatDoorW.PrintWords

section

variable (w0 : World) (a1 a2 a3 a4 : Int) (A : Option Addr) (nA cA : Nat)

theorem sw_bool (n : Int) : StepWrites w0 (.bool (n != 0)) 13 a1 a2 a3 a4 n A nA cA := fun P _ _ _ h _ _ hr => write_bool P n _ _ _ _ _ h hr

theorem sw_byte (n : Int) : StepWrites w0 (.byte (w8 n)) 14 a1 a2 a3 a4 n A nA cA := fun P _ _ _ h _ _ hr => write_byte P n _ _ _ _ _ h hr

theorem sw_i16 (n : Int) : StepWrites w0 (.i16 (w16 n)) 15 a1 a2 a3 a4 n A nA cA := fun P _ _ _ h _ _ hr => write_i16 P n _ _ _ _ _ h hr

theorem sw_i32 (n : Int) : StepWrites w0 (.i32 (wrap32 n)) 16 a1 a2 a3 a4 n A nA cA := fun P _ _ _ h _ _ hr => write_i32 P n _ _ _ _ _ h hr

theorem sw_i64 (n : Int) (h0 : -9223372036854775808 ≤ n) (h1 : n < 9223372036854775808) : StepWrites w0 (.i64 n) 17 a1 a2 a3 a4 n A nA cA := fun P _ _ _ h _ _ hr => write_i64 P n _ _ _ _ _ h0 h1 h hr

theorem sw_dbl (n : Int) : StepWrites w0 (.dbl (IntKind.u64.wrap n).toNat) 18 a1 a2 a3 a4 n A nA cA := fun P _ _ _ h _ _ hr => write_dbl P n _ _ _ _ _ h hr

end

section

variable (a1 a2 a3 a4 a5 : Int) (A : Option Addr) (nA cA : Nat)

abbrev onlyN (g : RGot) : RGot := { n := g.n }

theorem sr_bool : StepReads .bool onlyN 13 a1 a2 a3 a4 a5 A nA cA := fun P _ _ _ h _ _ _ hr => (read_bool P _ _ _ _ _ _ h hr).mono fun _ _ h => TellsV.num h

theorem sr_byte : StepReads .byte onlyN 14 a1 a2 a3 a4 a5 A nA cA := fun P _ _ _ h _ _ _ hr => (read_byte P _ _ _ _ _ _ h hr).mono fun _ _ h => TellsV.num h

theorem sr_i16 : StepReads .i16 onlyN 15 a1 a2 a3 a4 a5 A nA cA := fun P _ _ _ h _ _ _ hr => (read_i16 P _ _ _ _ _ _ h hr).mono fun _ _ h => TellsV.num h

theorem sr_i32 : StepReads .i32 onlyN 16 a1 a2 a3 a4 a5 A nA cA := fun P _ _ _ h _ _ _ hr => (read_i32 P _ _ _ _ _ _ h hr).mono fun _ _ h => TellsV.num h

theorem sr_i64 : StepReads .i64 onlyN 17 a1 a2 a3 a4 a5 A nA cA := fun P _ _ _ h _ _ _ hr => (read_i64 P _ _ _ _ _ _ h hr).mono fun _ _ h => TellsV.num h

theorem sr_dbl : StepReads .dbl onlyN 18 a1 a2 a3 a4 a5 A nA cA := fun P _ _ _ h _ _ _ hr => (read_dbl P _ _ _ _ _ _ h hr).mono fun _ _ h => TellsV.num h

end

end Go.Proofs.YtdafkilgakablaaGreatDoor

/-! What one step told held against what it should tell. -/
namespace Go.Proofs.YtdafkilgakablaaGreatDoor

open Go.RowKit Go.Deep

set_option linter.unusedVariables false

set_option linter.unusedSimpArgs false

open Go.Proofs.YtdafkilgakablaaGreatDoorW.PrintWords

theorem equal_bytes {s : List UInt8} {v1 v2 : Value} {k1 k2 : Nat} {W : World} (h1 : IsB (Lib.byteCells s) v1 k1 W) (h2 : IsB (Lib.byteCells s) v2 k2 W) :
    Calls Tryz.prog 16 #[v1, v2] W fun e w' => e = .returned (.bool true) ∧ Drawn0 W w' := by
  obtain ⟨a1, c1, rfl, hc1, hC1⟩ := h1.ints
  obtain ⟨a2, c2, rfl, hc2, hC2⟩ := h2.ints
  have := equal_any hC1 hc1 hC2 hc2
  simpa using this

set_option maxRecDepth 100000 in
set_option maxHeartbeats 2000000 in
theorem sameGot_one (q1 q2 c1 c2 : Nat) (g : RGot) (v1 v2 : Value) (k1 k2 : Nat) (w : World) (h1 : GotAt q1 0 g v1 w) (h2 : GotAt q2 0 g v2 w) (b1 : IsB (Lib.byteCells g.s) v1 k1 w) (b2 : IsB (Lib.byteCells g.s) v2 k2 w) :
    Calls Tryz.prog 44 #[.slice (some ⟨q1, 0, none⟩) 1 c1, .slice (some ⟨q2, 0, none⟩) 1 c2] w fun e w' => e = .returned (.bool true) ∧ Below w.heap.size w w' := by
  have HQ := Lib.hid (fun W (hB : Below w.heap.size w W) => equal_bytes (b1.step (Step.ofBelow (S := []) hB) (by simp)) (b2.step (Step.ofBelow (S := []) hB) (by simp)))
  obtain ⟨a1, d1, rfl, hc1, hC1⟩ := b1.ints
  obtain ⟨a2, d2, rfl, hc2, hC2⟩ := b2.ints
  clear b1 b2 hc1 hC1 hc2 hC2
  obtain ⟨p0, p1, p2, p3, p4, p5, p6⟩ := h1
  obtain ⟨r0, r1, r2, r3, r4, r5, r6⟩ := h2
  have hq1 := World.block_lt_of_cell? w _ p0
  have hq2 := World.block_lt_of_cell? w _ r0
  dsimp only at hq1 hq2
  go_enter Tryz.func44, Tryz.ntmps44
  go_wp2_with (fail)
  refine wp_loop_rounds 2 ?_
  rw [rounds_succ]
  go_wp2_with (fail)
  go_region_held3 (fun W' => W'.cell? ⟨q1, 0, none⟩ = some (.int .i64 0) ∧ W'.cell? ⟨q1, 1, none⟩ = some (.int .i64 g.t) ∧ W'.cell? ⟨q1, 2, none⟩ = some (.int .i64 g.k) ∧ W'.cell? ⟨q1, 3, none⟩ = some (.int .i64 g.size) ∧ W'.cell? ⟨q1, 4, none⟩ = some (.int .i64 g.id) ∧ W'.cell? ⟨q1, 5, none⟩ = some (.int .i64 g.n) ∧ W'.cell? ⟨q1, 6, none⟩ = some (.slice a1 (ints g.s).length d1) ∧ W'.cell? ⟨q2, 0, none⟩ = some (.int .i64 0) ∧ W'.cell? ⟨q2, 1, none⟩ = some (.int .i64 g.t) ∧ W'.cell? ⟨q2, 2, none⟩ = some (.int .i64 g.k) ∧ W'.cell? ⟨q2, 3, none⟩ = some (.int .i64 g.size) ∧ W'.cell? ⟨q2, 4, none⟩ = some (.int .i64 g.id) ∧ W'.cell? ⟨q2, 5, none⟩ = some (.int .i64 g.n) ∧ W'.cell? ⟨q2, 6, none⟩ = some (.slice a2 (ints g.s).length d2)) (first | exact ⟨p0, p1, p2, p3, p4, p5, p6, r0, r1, r2, r3, r4, r5, r6⟩ | (simp [go_sem, *]; done)) (fail)
  · obtain ⟨Wa, hWa⟩ : ∃ Wa, Wa = ((w.alloc (.cells #[.int .i64 0, .int .i64 g.t, .int .i64 g.k, .int .i64 g.size, .int .i64 g.id, .int .i64 g.n, .slice a1 (ints g.s).length d1] 54)).alloc (.cells #[.int .i64 0, .int .i64 g.t, .int .i64 g.k, .int .i64 g.size, .int .i64 g.id, .int .i64 g.n, .slice a2 (ints g.s).length d2] 54)).drew := ⟨_, rfl⟩
    rw [← hWa]
    have hx : Wa.heap[w.heap.size]? = some (.cells #[.int .i64 0, .int .i64 g.t, .int .i64 g.k, .int .i64 g.size, .int .i64 g.id, .int .i64 g.n, .slice a1 (ints g.s).length d1] 54 (0, 0)) := by rw [hWa]; exact heap_alloc_old (heap_alloc_new w _) _
    have hy : Wa.heap[w.heap.size + 1]? = some (.cells #[.int .i64 0, .int .i64 g.t, .int .i64 g.k, .int .i64 g.size, .int .i64 g.id, .int .i64 g.n, .slice a2 (ints g.s).length d2] 54 (0, 0)) := by rw [hWa]; exact heap_alloc_at (by simp) _
    have HWa := Lib.hid (show Below w.heap.size w Wa from by rw [hWa]; exact (((Below.refl _ w).alloc (Nat.le_refl _) _).alloc (by simp) _).drew)
    have x0 : Wa.cell? ⟨w.heap.size, 0, none⟩ = some (.int .i64 0) := (cell_heap hx _).trans rfl
    have x1 : Wa.cell? ⟨w.heap.size, 1, none⟩ = some (.int .i64 g.t) := (cell_heap hx _).trans rfl
    have x2 : Wa.cell? ⟨w.heap.size, 2, none⟩ = some (.int .i64 g.k) := (cell_heap hx _).trans rfl
    have x3 : Wa.cell? ⟨w.heap.size, 3, none⟩ = some (.int .i64 g.size) := (cell_heap hx _).trans rfl
    have x4 : Wa.cell? ⟨w.heap.size, 4, none⟩ = some (.int .i64 g.id) := (cell_heap hx _).trans rfl
    have x5 : Wa.cell? ⟨w.heap.size, 5, none⟩ = some (.int .i64 g.n) := (cell_heap hx _).trans rfl
    have x6 : Wa.cell? ⟨w.heap.size, 6, none⟩ = some (.slice a1 (ints g.s).length d1) := (cell_heap hx _).trans rfl
    have y0 : Wa.cell? ⟨w.heap.size + 1, 0, none⟩ = some (.int .i64 0) := (cell_heap hy _).trans rfl
    have y1 : Wa.cell? ⟨w.heap.size + 1, 1, none⟩ = some (.int .i64 g.t) := (cell_heap hy _).trans rfl
    have y2 : Wa.cell? ⟨w.heap.size + 1, 2, none⟩ = some (.int .i64 g.k) := (cell_heap hy _).trans rfl
    have y3 : Wa.cell? ⟨w.heap.size + 1, 3, none⟩ = some (.int .i64 g.size) := (cell_heap hy _).trans rfl
    have y4 : Wa.cell? ⟨w.heap.size + 1, 4, none⟩ = some (.int .i64 g.id) := (cell_heap hy _).trans rfl
    have y5 : Wa.cell? ⟨w.heap.size + 1, 5, none⟩ = some (.int .i64 g.n) := (cell_heap hy _).trans rfl
    have y6 : Wa.cell? ⟨w.heap.size + 1, 6, none⟩ = some (.slice a2 (ints g.s).length d2) := (cell_heap hy _).trans rfl
    clear hx hy hWa p0 p1 p2 p3 p4 p5 p6 r0 r1 r2 r3 r4 r5 r6
    go_wp2_with (fail)
    refine (HQ.out _ HWa.out).mono ?_
    rintro e W9 ⟨rfl, hD⟩
    have HB := Lib.hid (HWa.out.trans (hD.below.mono HWa.out.size))
    clear hD
    go_wp2_with (fail)
    rw [rounds_succ]
    go_wp2_with (fail)
    go_ret
    exact ⟨rfl, HB.out⟩
  · obtain ⟨Wa, hWa⟩ : ∃ Wa, Wa = ((w.alloc (.cells #[.int .i64 0, .int .i64 g.t, .int .i64 g.k, .int .i64 g.size, .int .i64 g.id, .int .i64 g.n, .slice a2 (ints g.s).length d2] 54)).alloc (.cells #[.int .i64 0, .int .i64 g.t, .int .i64 g.k, .int .i64 g.size, .int .i64 g.id, .int .i64 g.n, .slice a1 (ints g.s).length d1] 54)).drew := ⟨_, rfl⟩
    rw [← hWa]
    have hx : Wa.heap[w.heap.size]? = some (.cells #[.int .i64 0, .int .i64 g.t, .int .i64 g.k, .int .i64 g.size, .int .i64 g.id, .int .i64 g.n, .slice a2 (ints g.s).length d2] 54 (0, 0)) := by rw [hWa]; exact heap_alloc_old (heap_alloc_new w _) _
    have hy : Wa.heap[w.heap.size + 1]? = some (.cells #[.int .i64 0, .int .i64 g.t, .int .i64 g.k, .int .i64 g.size, .int .i64 g.id, .int .i64 g.n, .slice a1 (ints g.s).length d1] 54 (0, 0)) := by rw [hWa]; exact heap_alloc_at (by simp) _
    have HWa := Lib.hid (show Below w.heap.size w Wa from by rw [hWa]; exact (((Below.refl _ w).alloc (Nat.le_refl _) _).alloc (by simp) _).drew)
    have y0 : Wa.cell? ⟨w.heap.size, 0, none⟩ = some (.int .i64 0) := (cell_heap hx _).trans rfl
    have y1 : Wa.cell? ⟨w.heap.size, 1, none⟩ = some (.int .i64 g.t) := (cell_heap hx _).trans rfl
    have y2 : Wa.cell? ⟨w.heap.size, 2, none⟩ = some (.int .i64 g.k) := (cell_heap hx _).trans rfl
    have y3 : Wa.cell? ⟨w.heap.size, 3, none⟩ = some (.int .i64 g.size) := (cell_heap hx _).trans rfl
    have y4 : Wa.cell? ⟨w.heap.size, 4, none⟩ = some (.int .i64 g.id) := (cell_heap hx _).trans rfl
    have y5 : Wa.cell? ⟨w.heap.size, 5, none⟩ = some (.int .i64 g.n) := (cell_heap hx _).trans rfl
    have y6 : Wa.cell? ⟨w.heap.size, 6, none⟩ = some (.slice a2 (ints g.s).length d2) := (cell_heap hx _).trans rfl
    have x0 : Wa.cell? ⟨w.heap.size + 1, 0, none⟩ = some (.int .i64 0) := (cell_heap hy _).trans rfl
    have x1 : Wa.cell? ⟨w.heap.size + 1, 1, none⟩ = some (.int .i64 g.t) := (cell_heap hy _).trans rfl
    have x2 : Wa.cell? ⟨w.heap.size + 1, 2, none⟩ = some (.int .i64 g.k) := (cell_heap hy _).trans rfl
    have x3 : Wa.cell? ⟨w.heap.size + 1, 3, none⟩ = some (.int .i64 g.size) := (cell_heap hy _).trans rfl
    have x4 : Wa.cell? ⟨w.heap.size + 1, 4, none⟩ = some (.int .i64 g.id) := (cell_heap hy _).trans rfl
    have x5 : Wa.cell? ⟨w.heap.size + 1, 5, none⟩ = some (.int .i64 g.n) := (cell_heap hy _).trans rfl
    have x6 : Wa.cell? ⟨w.heap.size + 1, 6, none⟩ = some (.slice a1 (ints g.s).length d1) := (cell_heap hy _).trans rfl
    clear hx hy hWa p0 p1 p2 p3 p4 p5 p6 r0 r1 r2 r3 r4 r5 r6
    go_wp2_with (fail)
    refine (HQ.out _ HWa.out).mono ?_
    rintro e W9 ⟨rfl, hD⟩
    have HB := Lib.hid (HWa.out.trans (hD.below.mono HWa.out.size))
    clear hD
    go_wp2_with (fail)
    rw [rounds_succ]
    go_wp2_with (fail)
    go_ret
    exact ⟨rfl, HB.out⟩

end Go.Proofs.YtdafkilgakablaaGreatDoor

/-! A configuration with another protocol. -/
namespace Go.Proofs.YtdafkilgakablaaGreatDoor

open Go.RowKit Go.Deep

set_option linter.unusedVariables false

set_option linter.unusedSimpArgs false

open Go.Proofs.YtdafkilgakablaaGreatDoorW.PrintWords

theorem by_any (n proto : Int) (plain rb sb : Bool) (ms ct fr : Int) (w : World) :
    Calls Tryz.prog 18 #[.int .i64 n, confV proto plain rb sb ms ct fr] w fun e w' => e = .returned (confV n plain rb sb ms ct fr) ∧ Below w.heap.size w w' :=
  laws_by.calls n proto plain rb sb ms ct fr _ _ _ _ _ _ _ w rfl

end Go.Proofs.YtdafkilgakablaaGreatDoor

/-! One step alone: written and read back. -/
namespace Go.Proofs.YtdafkilgakablaaGreatDoor

open Go.RowKit Go.Deep

set_option linter.unusedVariables false

set_option linter.unusedSimpArgs false

open Go.Proofs.YtdafkilgakablaaGreatDoorW.PrintWords

theorem two_drew (w : World) (o1 o2 : Obj) : w.heap.size + 1 < ((w.alloc o1).alloc o2).drew.heap.size := by
  show w.heap.size + 1 < ((w.alloc o1).alloc o2).heap.size
  simp

theorem two_drew_at (w : World) (o1 o2 : Obj) : ((w.alloc o1).alloc o2).drew.heap[w.heap.size + 1]? = some o2 :=
  show ((w.alloc o1).alloc o2).heap[w.heap.size + 1]? = some o2 from heap_alloc_at (by simp) _

theorem two_drew0 (w : World) (o1 o2 : Obj) : w.heap.size < ((w.alloc o1).alloc o2).drew.heap.size := by
  show w.heap.size < ((w.alloc o1).alloc o2).heap.size
  simp <;> omega

theorem two_drew_at0 (w : World) (o1 o2 : Obj) : ((w.alloc o1).alloc o2).drew.heap[w.heap.size]? = some o1 :=
  show ((w.alloc o1).alloc o2).heap[w.heap.size]? = some o1 from heap_alloc_old (heap_alloc_new w _) _

set_option maxRecDepth 100000 in
set_option maxHeartbeats 2000000 in
theorem alone_any (proto : Int) (plain rb sb : Bool) (ms ct fr : Int) (hf : (cfgOf plain rb sb ms ct fr).fit) (o : WOp) (ro : ROp) (F : RGot → RGot) (op a1 a2 a3 a4 a5 : Int) (A : Option Addr) (nA cA : Nat)
    (Aw : Option Addr) (cw : Nat) (At : Option Addr) (ct' : Nat) (X : List UInt8) (zs : List Int) (g : RGot) (v : Value) (kb : Nat) (w : World) (hE : EofAt w)
    (hsw : ∀ W, Below w.heap.size w W → StepWrites W o op a1 a2 a3 a4 a5 A nA cA) (hsr : StepReads ro F op a1 a2 a3 a4 a5 A nA cA) (hcost : o.cost ≤ 1000000)
    (hw : (Kd.int .u8).C w Aw (ints X).length (ints X)) (hcw : (ints X).length ≤ cw) (ht : (Kd.int .u8).C w At zs.length zs) (hct : zs.length ≤ ct') (h8 : ∀ x ∈ zs, 0 ≤ x ∧ x < 256) (hzl : zs.length ≤ 1000000) (hv : IsB (Lib.byteCells g.s) v kb w)
    (hX1 : 1 ≤ X.length) (hX : encC proto (cfgOf plain rb sb ms ct fr) [o] = (X, 0)) {g0 : RGot} {st' : CSt} (hr : rdC proto (cfgOf plain rb sb ms ct fr) (CR0, X ++ toB zs) ro = some (g0, 0, (st', toB zs))) (hF : F g0 = g) :
    Calls Tryz.prog 22 #[confV proto plain rb sb ms ct fr, .agg #[.int .i64 op, .int .i64 a1, .int .i64 a2, .int .i64 a3, .int .i64 a4, .int .i64 a5, .slice A nA cA], .slice Aw (ints X).length cw, .slice At zs.length ct', gotV g v] w fun e w' => e = .returned (.bool true) ∧ Below w.heap.size w w' := by
  have HWT := Lib.hid (fun W b (hB : Below w.heap.size w W) hb hbl => Write_any proto plain rb sb ms ct fr o op a1 a2 a3 a4 a5 A nA cA W b (hsw W hB) (by omega) hb hbl (by rw [hX]))
  rw [hX] at HWT
  obtain ⟨av, cv, rfl, hcv, hCv⟩ := hv.ints
  clear hcv hCv
  have hXl : X.length ≤ 1000000 := by
    have h1 := enc_len proto (cfgOf plain rb sb ms ct fr) [o]
    rw [hX, costs_cons, costs_nil] at h1
    dsimp only at h1
    omega
  go_enter Tryz.func22, Tryz.ntmps22
  go_wp2_with (fail)
  obtain ⟨W0, hW0⟩ : ∃ W0, W0 = (((w.alloc (.cells #[.int .i64 proto, .bool plain, .bool rb, .bool sb, .int .i32 ms, .int .i32 ct, .int .i32 fr] 23)).alloc (.cells #[.int .i64 op, .int .i64 a1, .int .i64 a2, .int .i64 a3, .int .i64 a4, .int .i64 a5, .slice A nA cA] 33)).alloc (.cells #[.int .i64 0, .int .i64 g.t, .int .i64 g.k, .int .i64 g.size, .int .i64 g.id, .int .i64 g.n, .slice av (ints g.s).length cv] 54)).alloc (.cells #[.int .i64 op, .int .i64 a1, .int .i64 a2, .int .i64 a3, .int .i64 a4, .int .i64 a5, .slice A nA cA] 33) := ⟨_, rfl⟩
  have hs0 : W0.heap.size = w.heap.size + 1 + 1 + 1 + 1 := by rw [hW0]; simp
  have HBC := Lib.hid (show Box7 w.heap.size (.int .i64 proto) (.bool plain) (.bool rb) (.bool sb) (.int .i32 ms) (.int .i32 ct) (.int .i32 fr) W0 from by rw [hW0]; exact Box7.at_ (heap_alloc_old (heap_alloc_old (heap_alloc_old (heap_alloc_new w _) _) _) _))
  have HBS := Lib.hid (show Box7 (w.heap.size + 1) (.int .i64 op) (.int .i64 a1) (.int .i64 a2) (.int .i64 a3) (.int .i64 a4) (.int .i64 a5) (.slice A nA cA) W0 from by rw [hW0]; exact Box7.at_ (heap_alloc_old (heap_alloc_old (heap_alloc_at (by simp) _) _) _))
  have HBG := Lib.hid (show Box7 (w.heap.size + 1 + 1) (.int .i64 0) (.int .i64 g.t) (.int .i64 g.k) (.int .i64 g.size) (.int .i64 g.id) (.int .i64 g.n) (.slice av (ints g.s).length cv) W0 from by rw [hW0]; exact Box7.at_ (heap_alloc_old (heap_alloc_at (by simp) _) _))
  have HBR := Lib.hid (show Box7 (w.heap.size + 1 + 1 + 1) (.int .i64 op) (.int .i64 a1) (.int .i64 a2) (.int .i64 a3) (.int .i64 a4) (.int .i64 a5) (.slice A nA cA) W0 from by rw [hW0]; exact Box7.at_ (heap_alloc_at (by simp) _))
  have HB0 := Lib.hid (show Below w.heap.size w W0 from by rw [hW0]; exact ((((Below.refl _ w).alloc (Nat.le_refl _) _).alloc (by simp) _).alloc (by simp <;> omega) _).alloc (by simp <;> omega) _)
  rw [← hW0]
  clear hW0
  refine (HWT.out W0 _ HB0.out HBR.out (by omega)).mono ?_
  rintro e W1 ⟨v1, k1, q, cq, rfl, hi1, ⟨hq1, hcq⟩, hB1⟩
  obtain ⟨ao, ca, rfl, hca, hCa⟩ := hi1.ints
  have hql := World.block_lt_of_cell? W1 _ hq1
  dsimp only at hql
  have HW1 := Lib.hid (HB0.out.trans (hB1.mono (by omega)))
  have HB1 := Lib.hid hB1
  have hs1 := hB1.size
  have HEQ := Lib.hid (equal_any hCa hca (Kd.C_below hw HW1.out) hcw)
  have HCA := Lib.hid hCa
  have HQ1 := Lib.hid hq1
  clear hi1 hB1 hq1 hCa
  go_wp2_with (fail)
  refine HEQ.out.mono ?_
  rintro e W2 ⟨rfl, hD⟩
  simp only [decide_true]
  have HB2 := Lib.hid (HB1.out.trans (hD.below.mono hs1))
  have HD := Lib.hid hD.below
  have hq2 : W2.cell? ⟨q, 0, none⟩ = some (.int .i64 0) := (hD.below.cell (p := ⟨q, 0, none⟩) hql).trans HQ1.out
  clear hD
  have hs2 := HB2.out.size
  have hlt1 : w.heap.size < W2.heap.size := by omega
  have hlt2 : w.heap.size + 1 < W2.heap.size := by omega
  obtain ⟨p0, p1, p2, p3, p4, p5, p6⟩ := HBC.out.of HB2.out (by omega)
  obtain ⟨r0, r1, r2, r3, r4, r5, r6⟩ := HBS.out.of HB2.out (by omega)
  have HJ := Lib.hid (fun W blk (hB : Below W2.heap.size W2 W) (h0 : W.cell? ⟨blk, 0, none⟩ = some (.slice ao (ints X).length ca)) (h1 : W.cell? ⟨blk, 1, none⟩ = some (.slice At zs.length ct')) => joined_any (W := W) blk 2 [ints X, zs] (by simp) (by simp) (by simp) (by simp [ints_length]; omega) (fun j p hj => by
    match j, hj with
    | 0, hj => simp only [List.getElem?_cons_zero, Option.some.injEq] at hj; subst hj; exact ⟨_, _, h0, hca, Kd.C_below (Kd.C_below HCA.out HD.out) hB⟩
    | 1, hj => simp only [List.getElem?_cons_succ, List.getElem?_cons_zero, Option.some.injEq] at hj; subst hj; exact ⟨_, _, h1, hct, Kd.C_below (Kd.C_below ht (HB0.out.trans (HB2.out.mono (by omega)))) hB⟩
    | j + 2, hj => simp at hj))
  have HPS := Lib.hid (fun W (hB : Below W2.heap.size W2 W) => show W.cell? ⟨w.heap.size, 0, none⟩ = some (.int .i64 proto) ∧ W.cell? ⟨w.heap.size, 1, none⟩ = some (.bool plain) ∧ W.cell? ⟨w.heap.size, 2, none⟩ = some (.bool rb) ∧ W.cell? ⟨w.heap.size, 3, none⟩ = some (.bool sb) ∧ W.cell? ⟨w.heap.size, 4, none⟩ = some (.int .i32 ms) ∧ W.cell? ⟨w.heap.size, 5, none⟩ = some (.int .i32 ct) ∧ W.cell? ⟨w.heap.size, 6, none⟩ = some (.int .i32 fr) ∧ W.cell? ⟨w.heap.size + 1, 0, none⟩ = some (.int .i64 op) ∧ W.cell? ⟨w.heap.size + 1, 1, none⟩ = some (.int .i64 a1) ∧ W.cell? ⟨w.heap.size + 1, 2, none⟩ = some (.int .i64 a2) ∧ W.cell? ⟨w.heap.size + 1, 3, none⟩ = some (.int .i64 a3) ∧ W.cell? ⟨w.heap.size + 1, 4, none⟩ = some (.int .i64 a4) ∧ W.cell? ⟨w.heap.size + 1, 5, none⟩ = some (.int .i64 a5) ∧ W.cell? ⟨w.heap.size + 1, 6, none⟩ = some (.slice A nA cA) from by
    have hB' := HB2.out.trans (hB.mono hs2)
    obtain ⟨p0, p1, p2, p3, p4, p5, p6⟩ := HBC.out.of hB' (by omega)
    obtain ⟨r0, r1, r2, r3, r4, r5, r6⟩ := HBS.out.of hB' (by omega)
    exact ⟨p0, p1, p2, p3, p4, p5, p6, r0, r1, r2, r3, r4, r5, r6⟩)
  obtain ⟨ys, hys⟩ : ∃ ys : List Int, [ints X, zs].flatten = ys := ⟨_, rfl⟩
  have hysB : toB ys = X ++ toB zs := by
    rw [← hys]
    have := toB_ints X
    unfold toB at this ⊢
    simp [this]
  have hys8 : ∀ x ∈ ys, 0 ≤ x ∧ x < 256 := by
    rw [← hys]
    intro x hx
    simp only [List.flatten_cons, List.flatten_nil, List.append_nil, List.mem_append] at hx
    rcases hx with hx | hx
    · obtain ⟨y, _, rfl⟩ := List.mem_map.1 hx
      have := y.toNat_lt
      omega
    · exact h8 x hx
  have hysl : 1 ≤ ys.length ∧ ys.length ≤ 2000000 := by
    rw [← hys]
    simp [ints_length]
    omega
  rw [hys] at HJ
  have HRD := Lib.hid (fun W D cd b (hEW : EofAt W) (hD : (Kd.int .u8).C W D ys.length ys) hb hbl => Read_C proto plain rb sb ms ct fr hf ro F op a1 a2 a3 a4 a5 A nA cA hsr D cd ys b W hEW hD hys8 hysl.1 (by omega) hb hbl (by rw [hysB]; exact hr))
  have HEO := Lib.hid (fun W (hB : Below W2.heap.size W2 W) => hE.below (HB0.out.trans ((HB2.out.mono (by omega)).trans (hB.mono (by omega)))) hE.lt)
  clear hys hys8 hysB hr hsr h8
  go_wp2_with (fail)
  go_region_held3 (fun W' => W'.cell? ⟨w.heap.size, 0, none⟩ = some (.int .i64 proto) ∧ W'.cell? ⟨w.heap.size, 1, none⟩ = some (.bool plain) ∧ W'.cell? ⟨w.heap.size, 2, none⟩ = some (.bool rb) ∧ W'.cell? ⟨w.heap.size, 3, none⟩ = some (.bool sb) ∧ W'.cell? ⟨w.heap.size, 4, none⟩ = some (.int .i32 ms) ∧ W'.cell? ⟨w.heap.size, 5, none⟩ = some (.int .i32 ct) ∧ W'.cell? ⟨w.heap.size, 6, none⟩ = some (.int .i32 fr) ∧ W'.cell? ⟨w.heap.size + 1, 0, none⟩ = some (.int .i64 op) ∧ W'.cell? ⟨w.heap.size + 1, 1, none⟩ = some (.int .i64 a1) ∧ W'.cell? ⟨w.heap.size + 1, 2, none⟩ = some (.int .i64 a2) ∧ W'.cell? ⟨w.heap.size + 1, 3, none⟩ = some (.int .i64 a3) ∧ W'.cell? ⟨w.heap.size + 1, 4, none⟩ = some (.int .i64 a4) ∧ W'.cell? ⟨w.heap.size + 1, 5, none⟩ = some (.int .i64 a5) ∧ W'.cell? ⟨w.heap.size + 1, 6, none⟩ = some (.slice A nA cA)) (first | exact ⟨p0, p1, p2, p3, p4, p5, p6, r0, r1, r2, r3, r4, r5, r6⟩ | (simp [go_sem, *]; done) | exact HPS.out _ HB3.out | exact HPS.out _ (HB3.out.alloc HB3.out.size _) | exact HPS.out _ (HB3.out.alloc HB3.out.size _).drew | exact HPS.out _ HB3.out.drew | exact HPS.out _ HB4.out)
    (first
      | (go_at_call 12; refine (HJ.out _ _ (by repeat (first | (with_reducible exact Below.refl _ _) | (with_reducible refine Below.drew ?_) | (with_reducible refine Below.alloc ?_ (by simp <;> omega) _))) (by simp [go_sem]) (by simp [go_sem])).mono ?_; rintro e W3 ⟨v3, rfl, hR3, hB3⟩; obtain ⟨D, cd, rfl, hcd, hCd⟩ := Kd.R_reads hR3; have HRW := Lib.hid hB3; have HB3 := Lib.hid ((show Below W2.heap.size W2 _ from (by repeat (first | (with_reducible exact Below.refl _ _) | (with_reducible refine Below.drew ?_) | (with_reducible refine Below.alloc ?_ (by simp <;> omega) _)))).trans (hB3.mono (by simp <;> omega))); have HCD := Lib.hid hCd; clear hR3 hB3 hCd)
      | (go_at_call 27; with_reducible refine (HRD.out _ D cd _ (HEO.out _ (HB3.out.alloc HB3.out.size _)) (Kd.C_below HCD.out ((Below.refl _ W3).alloc (Nat.le_refl _) _)) (Box7.at_ (heap_alloc_new _ _)) (by simp)).mono ?_; rintro e W4 ⟨q4, cap4, v4, kb4, rfl, hG4, hv4, hB4⟩; have HB4 := Lib.hid ((HB3.out.alloc HB3.out.size _).trans (hB4.mono (by have := HB3.out.size; simp <;> omega))); have HG4 := Lib.hid hG4; have HV4 := Lib.hid hv4; clear hG4 hv4 hB4)
      | (go_at_call 27; with_reducible refine (HRD.out _ D cd _ (HEO.out _ HB3.out) HCD.out ?_ ?_).mono ?_; (first | exact Box7.at_ ((HRW.out.block _ (two_drew W2 _ _)).trans (two_drew_at W2 _ _)) | exact Box7.at_ ((HRW.out.block _ (two_drew0 W2 _ _)).trans (two_drew_at0 W2 _ _))); (first | exact Nat.lt_of_lt_of_le (two_drew W2 _ _) HRW.out.size | exact Nat.lt_of_lt_of_le (two_drew0 W2 _ _) HRW.out.size); rintro e W4 ⟨q4, cap4, v4, kb4, rfl, hG4, hv4, hB4⟩; have HB4 := Lib.hid (HB3.out.trans (hB4.mono HB3.out.size)); have HG4 := Lib.hid hG4; have HV4 := Lib.hid hv4; clear hG4 hv4 hB4))
  all_goals (
    have hs4 := HB4.out.size
    obtain ⟨s0, s1, s2, s3, s4, s5, s6⟩ := HBG.out.of (HB2.out.trans (HB4.out.mono hs2)) (by omega)
    have hzl2 : (toB zs).length = zs.length := by simp [toB]
    rw [hF] at HG4 HV4
    have hq4l := World.block_lt_of_cell? W4 _ HG4.out.1
    dsimp only at hq4l
    have HSG := Lib.hid (fun W b (hB : Below W4.heap.size W4 W) (hb : GotAt b 0 g (.slice av (ints g.s).length cv) W) => sameGot_one q4 b cap4 1 g v4 (.slice av (ints g.s).length cv) kb4 kb W (Box7.of HG4.out hB hq4l) hb (HV4.out.step (Step.ofBelow (S := []) hB) (by simp)) (hv.step (Step.ofBelow (S := []) (HB0.out.trans ((HB2.out.mono (by omega)).trans ((HB4.out.mono (by omega)).trans (hB.mono (by omega)))))) (by simp)))
    go_wp2_with (fail)
    refine (HSG.out _ W4.heap.size ((Below.refl _ W4).alloc (Nat.le_refl _) _) (Box7.at_ (heap_alloc_new W4 _))).mono ?_
    rintro e W5 ⟨rfl, hB5⟩
    have HB5 := Lib.hid (HB4.out.trans ((((Below.refl _ W4).alloc (Nat.le_refl _) _).trans (hB5.mono (by simp))).mono hs4))
    clear hB5
    go_wp2_with (fail)
    go_ret
    exact ⟨rfl, HB0.out.trans ((HB2.out.trans (HB5.out.mono hs2)).mono (by omega))⟩)
  done

end Go.Proofs.YtdafkilgakablaaGreatDoor

/-! Numbers by seven bits, the lowest byte first, the highest first: the laws' own words for them. -/
namespace Go.Proofs.YtdafkilgakablaaGreatDoor

open Go.RowKit Go.Deep

set_option linter.unusedVariables false

set_option linter.unusedSimpArgs false

open Go.Proofs.YtdafkilgakablaaGreatDoorW.PrintWords

theorem u8_or128 : ∀ a : Fin 256, bits .or .u8 ((a.val : Nat) : Int) 128 = ((a.val % 128 + 128 : Nat) : Int) := by decide +kernel

theorem seven_l0 : ∀ (k N : Nat) (acc : List Int), N < 128 ^ (k + 1) → acc.length + k + 1 ≤ 1000 → laws_seven.l0 (k + 1) (N : Int) acc = some (acc ++ ints (Lib.uvarint N))
  | 0, N, acc, h, hl => by
    have hN : N < 128 := by simpa using h
    rw [laws_seven.l0, if_neg (by omega), if_pos (by omega), Lib.uvarint_small hN]
    simp [ints]
  | k + 1, N, acc, h, hl => by
    by_cases hN : N < 128
    · rw [laws_seven.l0, if_neg (by omega), if_pos (by omega), Lib.uvarint_small hN]
      simp [ints]
    · have hd : N / 128 < 128 ^ (k + 1) := by
        rw [Nat.div_lt_iff_lt_mul (by omega)]
        rw [Nat.pow_succ] at h
        exact h
      have e : (N : Int) / 128 = ((N / 128 : Nat) : Int) := by omega
      have e2 : bits .or .u8 ((N : Int) % 256) 128 = ((N % 128 + 128 : Nat) : Int) := by
        have := u8_or128 ⟨N % 256, by omega⟩
        rw [show ((N : Int) % 256) = ((N % 256 : Nat) : Int) by omega, this]
        simp only [Int.ofNat_inj]
        omega
      rw [laws_seven.l0, if_pos (by omega), if_pos (by omega), e, e2, seven_l0 k (N / 128) _ hd (by simp; omega), Lib.uvarint_big (x := N) (by omega)]
      have e3 : ((N % 128 + 128).toUInt8).toNat = N % 128 + 128 := by
        simp only [Nat.toUInt8, UInt8.toNat_ofNat']
        omega
      simp [ints, e3]
      omega

theorem seven_f (N : Nat) (h : N < 18446744073709551616) : laws_seven.f 10 (N : Int) = some (ints (Lib.uvarint N)) := by
  unfold laws_seven.f
  rw [seven_l0 9 N [] (Nat.lt_of_lt_of_le h (by decide)) (by simp)]
  rfl

theorem folded_f (x : Int) (h0 : -9223372036854775808 ≤ x) (h1 : x < 9223372036854775808) : laws_folded.f 10 x = some (ints (Lib.uvarint (Lib.zigzag x))) := by
  unfold laws_folded.f
  rw [u64_zigzag x h0 h1, seven_f _ (zz_lt64 x h0 h1)]
  rfl

theorem folded_any (x : Int) (h0 : -9223372036854775808 ≤ x) (h1 : x < 9223372036854775808) (w : World) : Calls Tryz.prog 23 #[.int .i64 x] w fun e w' => ∃ v : Value, e = .returned v ∧ Kd.R (Kd.int .u8) 5 w' w.heap.size (fun _ => True) v (ints (Lib.uvarint (Lib.zigzag x))) ∧ Below w.heap.size w w' :=
  laws_folded.calls 10 _ _ w (folded_f x h0 h1)

theorem big_any (n : Int) (w : World) : Calls Tryz.prog 20 #[.int .i64 n, .int .i64 1] w fun e w' => ∃ v : Value, e = .returned v ∧ Kd.R (Kd.int .u8) 5 w' w.heap.size (fun _ => True) v (ints [u8 (w8 n)]) ∧ Below w.heap.size w w' :=
  laws_big.calls 3 _ _ _ w (by
    have e : (IntKind.u64.wrap n) % 256 = (((w8 n % 256).toNat.toUInt8).toNat : Int) := by
      have h1 : ((w8 n % 256).toNat.toUInt8).toNat = (w8 n % 256).toNat := by
        simp only [Nat.toUInt8, UInt8.toNat_ofNat']
        omega
      rw [h1]
      unfold w8
      simp [IntKind.wrap, go_sem]
      omega
    simp [laws_big.f, laws_big.l0, wrap64, shr, ints, u8, e])

theorem le_ints (N : Nat) (h : N < 18446744073709551616) : ints (le8 N) = [(N : Int) % 256, (N : Int) / 256 % 256, (N : Int) / 65536 % 256, (N : Int) / 16777216 % 256, (N : Int) / 4294967296 % 256, (N : Int) / 1099511627776 % 256, (N : Int) / 281474976710656 % 256, (N : Int) / 72057594037927936 % 256] := by
  have e : ∀ x : Nat, ((x % 256).toUInt8).toNat = x % 256 := fun x => by
    simp only [Nat.toUInt8, UInt8.toNat_ofNat']
    omega
  simp only [ints, le8, Lib.leBytes, List.map_cons, List.map_nil, e]
  simp only [Nat.div_div_eq_div_mul]
  simp

theorem little_any (n : Int) (w : World) : Calls Tryz.prog 24 #[.int .i64 n, .int .i64 8] w fun e w' => ∃ v : Value, e = .returned v ∧ Kd.R (Kd.int .u8) 5 w' w.heap.size (fun _ => True) v (ints (le8 (IntKind.u64.wrap n).toNat)) ∧ Below w.heap.size w w' :=
  laws_little.calls 10 _ _ _ w (by
    have hN : IntKind.u64.wrap n = n % 18446744073709551616 := by
      have es : IntKind.u64.signed = false := rfl
      simp [IntKind.wrap, go_sem, es]
    have eb : IntKind.u64.bits = 64 := rfl
    rw [le_ints _ (by rw [hN]; omega), Int.toNat_of_nonneg (by rw [hN]; omega)]
    simp [laws_little.f, laws_little.l0, wrap64, shr, eb])

end Go.Proofs.YtdafkilgakablaaGreatDoor

/-! Numbers by the compact protocol, written and read back: plain. -/
namespace Go.Proofs.YtdafkilgakablaaGreatDoor

open Go.RowKit Go.Deep

set_option linter.unusedVariables false

set_option linter.unusedSimpArgs false

theorem encC_one (c : Cfg) (o : WOp) (hf : o.fit) : encC 1 c [o] = ((cmpRun CW0 o).2.1, (cmpRun CW0 o).2.2) := by
  have h : (cmpRun CW0 o).2.1.length ≤ o.cost := cmpO_len CW0 okW_0 o hf
  unfold encC
  rw [if_pos rfl]
  unfold runs
  simp only [cmpStep, cmpO, List.take_of_length_le h, List.nil_append, runs]
  split
  · next h2 => rw [h2]
  · rfl

theorem unz32_w64 (n : Int) : unz32 (wrap64 n) = unz32 n := by
  unfold unz32 wrap64
  split <;> split <;> omega

theorem unz32_zz (x : Int) (h0 : -2147483648 ≤ x) (h1 : x < 2147483648) : unz32 (wrap64 (Lib.zigzag x : Int)) = x := by
  rw [unz32_w64, ← unz32_wrap, unz32_zigzag x h0 h1]

theorem unz64_w64 (n : Int) : unz64 (wrap64 n) = unz64 n := by
  unfold unz64 wrap64
  split <;> split <;> omega

theorem unz64_zz (x : Int) (h0 : -9223372036854775808 ≤ x) (h1 : x < 9223372036854775808) : unz64 (wrap64 (Lib.zigzag x : Int)) = x := by
  rw [unz64_w64, ← unz64_wrap, unz64_zigzag x h0 h1]

theorem rd_bool (c : Cfg) (b : Bool) (R : List UInt8) : rdC 1 c (CR0, [if b = true then 1 else 2] ++ R) .bool = some ({ n := if b = true then 1 else 0 }, 0, (CR0, R)) := by cases b <;> rfl

theorem rd_byte (c : Cfg) (n : Int) (h0 : -128 ≤ n) (h1 : n < 128) (R : List UInt8) : rdC 1 c (CR0, [u8 n] ++ R) .byte = some ({ n := n }, 0, (CR0, R)) := by
  have e : i8w (u8 n) = n := by
    have e1 : ((n % 256).toNat.toUInt8).toNat = (n % 256).toNat := by
      simp only [Nat.toUInt8, UInt8.toNat_ofNat']
      omega
    unfold i8w u8
    rw [e1]
    rw [wrap_i8]
    omega
  show some (({ n := i8w (u8 n) } : RGot), 0, (CR0, R)) = _
  rw [e]

theorem rd_i16 (c : Cfg) (n : Int) (h0 : -32768 ≤ n) (h1 : n < 32768) (R : List UInt8) : rdC 1 c (CR0, Lib.uvarint (Lib.zigzag n) ++ R) .i16 = some ({ n := n }, 0, (CR0, R)) := by
  show (v64 (Lib.uvarint (Lib.zigzag n) ++ R)).map (fun a => (({ n := IntKind.i16.wrap (unz32 a.1) } : RGot), 0, (CR0, a.2))) = _
  rw [v64_uvarint _ _ (zz_lt64 n (by omega) (by omega))]
  simp only [Option.map_some]
  rw [unz32_zz n (by omega) (by omega), wrap_i16, show (n + 32768) % 65536 - 32768 = n by omega]

theorem rd_i32 (c : Cfg) (n : Int) (h0 : -2147483648 ≤ n) (h1 : n < 2147483648) (R : List UInt8) : rdC 1 c (CR0, Lib.uvarint (Lib.zigzag n) ++ R) .i32 = some ({ n := n }, 0, (CR0, R)) := by
  show (v64 (Lib.uvarint (Lib.zigzag n) ++ R)).map (fun a => (({ n := unz32 a.1 } : RGot), 0, (CR0, a.2))) = _
  rw [v64_uvarint _ _ (zz_lt64 n (by omega) (by omega))]
  simp only [Option.map_some]
  rw [unz32_zz n h0 h1]

theorem rd_i64 (c : Cfg) (n : Int) (h0 : -9223372036854775808 ≤ n) (h1 : n < 9223372036854775808) (R : List UInt8) : rdC 1 c (CR0, Lib.uvarint (Lib.zigzag n) ++ R) .i64 = some ({ n := n }, 0, (CR0, R)) := by
  show (v64 (Lib.uvarint (Lib.zigzag n) ++ R)).map (fun a => (({ n := unz64 a.1 } : RGot), 0, (CR0, a.2))) = _
  rw [v64_uvarint _ _ (zz_lt64 n (by omega) (by omega))]
  simp only [Option.map_some]
  rw [unz64_zz n h0 h1]

theorem rd_dbl (c : Cfg) (n : Int) (h0 : -9223372036854775808 ≤ n) (h1 : n < 9223372036854775808) (R : List UInt8) : rdC 1 c (CR0, le8 (IntKind.u64.wrap n).toNat ++ R) .dbl = some ({ n := n }, 0, (CR0, R)) := by
  have es : IntKind.u64.signed = false := rfl
  have hN : IntKind.u64.wrap n = n % 18446744073709551616 := by simp [IntKind.wrap, go_sem, es]
  have hl : (le8 (IntKind.u64.wrap n).toNat).length = 8 := Lib.leBytes_length 8 _
  have hv : Lib.leNat (le8 (IntKind.u64.wrap n).toNat) = (IntKind.u64.wrap n).toNat := Lib.leNat_leBytes 8 _ (by rw [hN]; omega)
  show (takeN 8 (le8 (IntKind.u64.wrap n).toNat ++ R)).map (fun a => (({ n := wrap64 (Lib.leNat a.1) } : RGot), 0, (CR0, a.2))) = _
  unfold takeN
  rw [if_pos (by rw [List.length_append, hl]; omega), Option.map_some, List.take_left' hl, List.drop_left' hl, hv, hN]
  unfold wrap64
  have : ((((n % 18446744073709551616).toNat : Nat) : Int) + 9223372036854775808) % 18446744073709551616 - 9223372036854775808 = n := by omega
  simp only [this]

end Go.Proofs.YtdafkilgakablaaGreatDoor

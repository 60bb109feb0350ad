/- One step alone, written and read back. No condition. -/
import Derived.Test.YthmkkbihfdcbiaaGreatDoorMn
import Derived.Test.YthmkkbihfdcbiaaGreatDoorMv4
import Derived.Test.YthmkkbihfdcbiaaGreatDoorMr
import Derived.Deep.QuietTactic
import Derived.BigQuiet
import Derived.Test.YthmkkbihfdcbiaaGreatDoorMr2
import Derived.Test.YthmkkbihfdcbiaaGreatDoorMg1
import Derived.Test.YthmkkbihfdcbiaaGreatDoorMb1
import Derived.Test.YthmkkbihfdcbiaaGreatDoorMd1
/-! Steps that are written and steps that are read: which calls they come to. -/
namespace Go.Proofs.YthmkkbihfdcbiaaGreatDoor

open Go.RowKit Go.Deep

set_option linter.unusedVariables false

set_option linter.unusedSimpArgs false

open Go.Proofs.YthmkkbihfdcbiaaGreatDoorW.PrintWords

section

variable (w0 : World) (a1 a2 a3 a4 : Int) (A : Option Addr) (nA cA : Nat)

end

theorem sw_msg (w0 : World) (t n a2 a3 a4 : Int) (A : Option Addr) (cA : Nat) (xs : List Int) (hx : (Kd.int .u8).C w0 A xs.length xs) (hl : xs.length ≤ 2147483647) : StepWrites w0 (.msgB (toB xs) (wrap32 t) (wrap32 n)) 0 t a2 a3 a4 n A xs.length cA := fun P _ _ _ h hB hS hr => write_msg P t n _ _ _ A cA xs h hx hB hS hl hr

section

variable (a1 a2 a3 a4 a5 : Int) (A : Option Addr) (nA cA : Nat)

theorem sr_msg : StepReads .msgB (fun g => { s := g.s, t := g.t, n := g.n }) 0 a1 a2 a3 a4 a5 A nA cA := fun P _ _ _ h _ _ _ hr => read_msg P _ _ _ _ _ _ h hr

end

end Go.Proofs.YthmkkbihfdcbiaaGreatDoor

/-! What one step told held against what it should tell. -/
namespace Go.Proofs.YthmkkbihfdcbiaaGreatDoor

open Go.RowKit Go.Deep

set_option linter.unusedVariables false

set_option linter.unusedSimpArgs false

open Go.Proofs.YthmkkbihfdcbiaaGreatDoorW.PrintWords

/-- A row of these bytes. -/
def RowB (s : List UInt8) (v : Value) (w : World) : Prop := ∃ a c, v = .slice a (ints s).length c ∧ (ints s).length ≤ c ∧ (Kd.int .u8).C w a (ints s).length (ints s)

theorem IsB.rowB {s : List UInt8} {v : Value} {k : Nat} {w : World} (h : IsB (Lib.byteCells s) v k w) : RowB s v w := h.ints

theorem RowB.below {s : List UInt8} {v : Value} {w w1 : World} (h : RowB s v w) (hB : Below w.heap.size w w1) : RowB s v w1 := by
  obtain ⟨a, c, h1, h2, h3⟩ := h
  exact ⟨a, c, h1, h2, Kd.C_below h3 hB⟩

theorem equal_bytes {s : List UInt8} {v1 v2 : Value} {W : World} (h1 : RowB s v1 W) (h2 : RowB s v2 W) :
    Calls Tryz.prog 16 #[v1, v2] W fun e w' => e = .returned (.bool true) ∧ Drawn0 W w' := by
  obtain ⟨a1, c1, rfl, hc1, hC1⟩ := h1
  obtain ⟨a2, c2, rfl, hc2, hC2⟩ := h2
  have := equal_any hC1 hc1 hC2 hc2
  simpa using this

set_option maxRecDepth 100000 in
set_option maxHeartbeats 2000000 in
theorem sameGot_one (q1 q2 c1 c2 : Nat) (g : RGot) (v1 v2 : Value) (w : World) (h1 : GotAt q1 0 g v1 w) (h2 : GotAt q2 0 g v2 w) (b1 : RowB g.s v1 w) (b2 : RowB g.s v2 w) :
    Calls Tryz.prog 31 #[.slice (some ⟨q1, 0, none⟩) 1 c1, .slice (some ⟨q2, 0, none⟩) 1 c2] w fun e w' => e = .returned (.bool true) ∧ Below w.heap.size w w' := by
  have HQ := Lib.hid (fun W (hB : Below w.heap.size w W) => equal_bytes (b1.below hB) (b2.below hB))
  obtain ⟨a1, d1, rfl, hc1, hC1⟩ := b1
  obtain ⟨a2, d2, rfl, hc2, hC2⟩ := b2
  clear hc1 hC1 hc2 hC2
  obtain ⟨p0, p1, p2, p3, p4, p5, p6⟩ := h1
  obtain ⟨r0, r1, r2, r3, r4, r5, r6⟩ := h2
  have hq1 := World.block_lt_of_cell? w _ p0
  have hq2 := World.block_lt_of_cell? w _ r0
  dsimp only at hq1 hq2
  go_enter Tryz.func31, Tryz.ntmps31
  go_wp2_with (fail)
  refine wp_loop_rounds 2 ?_
  rw [rounds_succ]
  go_wp2_with (fail)
  go_region_held3 (fun W' => W'.cell? ⟨q1, 0, none⟩ = some (.int .i64 0) ∧ W'.cell? ⟨q1, 1, none⟩ = some (.int .i64 g.t) ∧ W'.cell? ⟨q1, 2, none⟩ = some (.int .i64 g.k) ∧ W'.cell? ⟨q1, 3, none⟩ = some (.int .i64 g.size) ∧ W'.cell? ⟨q1, 4, none⟩ = some (.int .i64 g.id) ∧ W'.cell? ⟨q1, 5, none⟩ = some (.int .i64 g.n) ∧ W'.cell? ⟨q1, 6, none⟩ = some (.slice a1 (ints g.s).length d1) ∧ W'.cell? ⟨q2, 0, none⟩ = some (.int .i64 0) ∧ W'.cell? ⟨q2, 1, none⟩ = some (.int .i64 g.t) ∧ W'.cell? ⟨q2, 2, none⟩ = some (.int .i64 g.k) ∧ W'.cell? ⟨q2, 3, none⟩ = some (.int .i64 g.size) ∧ W'.cell? ⟨q2, 4, none⟩ = some (.int .i64 g.id) ∧ W'.cell? ⟨q2, 5, none⟩ = some (.int .i64 g.n) ∧ W'.cell? ⟨q2, 6, none⟩ = some (.slice a2 (ints g.s).length d2)) (first | exact ⟨p0, p1, p2, p3, p4, p5, p6, r0, r1, r2, r3, r4, r5, r6⟩ | (simp [go_sem, *]; done)) (fail)
  · obtain ⟨Wa, hWa⟩ : ∃ Wa, Wa = ((w.alloc (.cells #[.int .i64 0, .int .i64 g.t, .int .i64 g.k, .int .i64 g.size, .int .i64 g.id, .int .i64 g.n, .slice a1 (ints g.s).length d1] 48)).alloc (.cells #[.int .i64 0, .int .i64 g.t, .int .i64 g.k, .int .i64 g.size, .int .i64 g.id, .int .i64 g.n, .slice a2 (ints g.s).length d2] 48)).drew := ⟨_, rfl⟩
    rw [← hWa]
    have hx : Wa.heap[w.heap.size]? = some (.cells #[.int .i64 0, .int .i64 g.t, .int .i64 g.k, .int .i64 g.size, .int .i64 g.id, .int .i64 g.n, .slice a1 (ints g.s).length d1] 48 (0, 0)) := by rw [hWa]; exact heap_alloc_old (heap_alloc_new w _) _
    have hy : Wa.heap[w.heap.size + 1]? = some (.cells #[.int .i64 0, .int .i64 g.t, .int .i64 g.k, .int .i64 g.size, .int .i64 g.id, .int .i64 g.n, .slice a2 (ints g.s).length d2] 48 (0, 0)) := by rw [hWa]; exact heap_alloc_at (by simp) _
    have HWa := Lib.hid (show Below w.heap.size w Wa from by rw [hWa]; exact (((Below.refl _ w).alloc (Nat.le_refl _) _).alloc (by simp) _).drew)
    have x0 : Wa.cell? ⟨w.heap.size, 0, none⟩ = some (.int .i64 0) := (cell_heap hx _).trans rfl
    have x1 : Wa.cell? ⟨w.heap.size, 1, none⟩ = some (.int .i64 g.t) := (cell_heap hx _).trans rfl
    have x2 : Wa.cell? ⟨w.heap.size, 2, none⟩ = some (.int .i64 g.k) := (cell_heap hx _).trans rfl
    have x3 : Wa.cell? ⟨w.heap.size, 3, none⟩ = some (.int .i64 g.size) := (cell_heap hx _).trans rfl
    have x4 : Wa.cell? ⟨w.heap.size, 4, none⟩ = some (.int .i64 g.id) := (cell_heap hx _).trans rfl
    have x5 : Wa.cell? ⟨w.heap.size, 5, none⟩ = some (.int .i64 g.n) := (cell_heap hx _).trans rfl
    have x6 : Wa.cell? ⟨w.heap.size, 6, none⟩ = some (.slice a1 (ints g.s).length d1) := (cell_heap hx _).trans rfl
    have y0 : Wa.cell? ⟨w.heap.size + 1, 0, none⟩ = some (.int .i64 0) := (cell_heap hy _).trans rfl
    have y1 : Wa.cell? ⟨w.heap.size + 1, 1, none⟩ = some (.int .i64 g.t) := (cell_heap hy _).trans rfl
    have y2 : Wa.cell? ⟨w.heap.size + 1, 2, none⟩ = some (.int .i64 g.k) := (cell_heap hy _).trans rfl
    have y3 : Wa.cell? ⟨w.heap.size + 1, 3, none⟩ = some (.int .i64 g.size) := (cell_heap hy _).trans rfl
    have y4 : Wa.cell? ⟨w.heap.size + 1, 4, none⟩ = some (.int .i64 g.id) := (cell_heap hy _).trans rfl
    have y5 : Wa.cell? ⟨w.heap.size + 1, 5, none⟩ = some (.int .i64 g.n) := (cell_heap hy _).trans rfl
    have y6 : Wa.cell? ⟨w.heap.size + 1, 6, none⟩ = some (.slice a2 (ints g.s).length d2) := (cell_heap hy _).trans rfl
    clear hx hy hWa p0 p1 p2 p3 p4 p5 p6 r0 r1 r2 r3 r4 r5 r6
    go_wp2_with (fail)
    refine (HQ.out _ HWa.out).mono ?_
    rintro e W9 ⟨rfl, hD⟩
    have HB := Lib.hid (HWa.out.trans (hD.below.mono HWa.out.size))
    clear hD
    go_wp2_with (fail)
    rw [rounds_succ]
    go_wp2_with (fail)
    go_ret
    exact ⟨rfl, HB.out⟩
  · obtain ⟨Wa, hWa⟩ : ∃ Wa, Wa = ((w.alloc (.cells #[.int .i64 0, .int .i64 g.t, .int .i64 g.k, .int .i64 g.size, .int .i64 g.id, .int .i64 g.n, .slice a2 (ints g.s).length d2] 48)).alloc (.cells #[.int .i64 0, .int .i64 g.t, .int .i64 g.k, .int .i64 g.size, .int .i64 g.id, .int .i64 g.n, .slice a1 (ints g.s).length d1] 48)).drew := ⟨_, rfl⟩
    rw [← hWa]
    have hx : Wa.heap[w.heap.size]? = some (.cells #[.int .i64 0, .int .i64 g.t, .int .i64 g.k, .int .i64 g.size, .int .i64 g.id, .int .i64 g.n, .slice a2 (ints g.s).length d2] 48 (0, 0)) := by rw [hWa]; exact heap_alloc_old (heap_alloc_new w _) _
    have hy : Wa.heap[w.heap.size + 1]? = some (.cells #[.int .i64 0, .int .i64 g.t, .int .i64 g.k, .int .i64 g.size, .int .i64 g.id, .int .i64 g.n, .slice a1 (ints g.s).length d1] 48 (0, 0)) := by rw [hWa]; exact heap_alloc_at (by simp) _
    have HWa := Lib.hid (show Below w.heap.size w Wa from by rw [hWa]; exact (((Below.refl _ w).alloc (Nat.le_refl _) _).alloc (by simp) _).drew)
    have y0 : Wa.cell? ⟨w.heap.size, 0, none⟩ = some (.int .i64 0) := (cell_heap hx _).trans rfl
    have y1 : Wa.cell? ⟨w.heap.size, 1, none⟩ = some (.int .i64 g.t) := (cell_heap hx _).trans rfl
    have y2 : Wa.cell? ⟨w.heap.size, 2, none⟩ = some (.int .i64 g.k) := (cell_heap hx _).trans rfl
    have y3 : Wa.cell? ⟨w.heap.size, 3, none⟩ = some (.int .i64 g.size) := (cell_heap hx _).trans rfl
    have y4 : Wa.cell? ⟨w.heap.size, 4, none⟩ = some (.int .i64 g.id) := (cell_heap hx _).trans rfl
    have y5 : Wa.cell? ⟨w.heap.size, 5, none⟩ = some (.int .i64 g.n) := (cell_heap hx _).trans rfl
    have y6 : Wa.cell? ⟨w.heap.size, 6, none⟩ = some (.slice a2 (ints g.s).length d2) := (cell_heap hx _).trans rfl
    have x0 : Wa.cell? ⟨w.heap.size + 1, 0, none⟩ = some (.int .i64 0) := (cell_heap hy _).trans rfl
    have x1 : Wa.cell? ⟨w.heap.size + 1, 1, none⟩ = some (.int .i64 g.t) := (cell_heap hy _).trans rfl
    have x2 : Wa.cell? ⟨w.heap.size + 1, 2, none⟩ = some (.int .i64 g.k) := (cell_heap hy _).trans rfl
    have x3 : Wa.cell? ⟨w.heap.size + 1, 3, none⟩ = some (.int .i64 g.size) := (cell_heap hy _).trans rfl
    have x4 : Wa.cell? ⟨w.heap.size + 1, 4, none⟩ = some (.int .i64 g.id) := (cell_heap hy _).trans rfl
    have x5 : Wa.cell? ⟨w.heap.size + 1, 5, none⟩ = some (.int .i64 g.n) := (cell_heap hy _).trans rfl
    have x6 : Wa.cell? ⟨w.heap.size + 1, 6, none⟩ = some (.slice a1 (ints g.s).length d1) := (cell_heap hy _).trans rfl
    clear hx hy hWa p0 p1 p2 p3 p4 p5 p6 r0 r1 r2 r3 r4 r5 r6
    go_wp2_with (fail)
    refine (HQ.out _ HWa.out).mono ?_
    rintro e W9 ⟨rfl, hD⟩
    have HB := Lib.hid (HWa.out.trans (hD.below.mono HWa.out.size))
    clear hD
    go_wp2_with (fail)
    rw [rounds_succ]
    go_wp2_with (fail)
    go_ret
    exact ⟨rfl, HB.out⟩

end Go.Proofs.YthmkkbihfdcbiaaGreatDoor

/-! A configuration with another protocol. -/
namespace Go.Proofs.YthmkkbihfdcbiaaGreatDoor

open Go.RowKit Go.Deep

set_option linter.unusedVariables false

set_option linter.unusedSimpArgs false

open Go.Proofs.YthmkkbihfdcbiaaGreatDoorW.PrintWords

theorem by_any (n proto : Int) (plain rb sb : Bool) (ms ct fr : Int) (w : World) :
    Calls Tryz.prog 14 #[.int .i64 n, confV proto plain rb sb ms ct fr] w fun e w' => e = .returned (confV n plain rb sb ms ct fr) ∧ Below w.heap.size w w' :=
  laws_by.calls n proto plain rb sb ms ct fr _ _ _ _ _ _ _ w rfl

end Go.Proofs.YthmkkbihfdcbiaaGreatDoor

/-! One step alone: written and read back. -/
namespace Go.Proofs.YthmkkbihfdcbiaaGreatDoor

open Go.RowKit Go.Deep

set_option linter.unusedVariables false

set_option linter.unusedSimpArgs false

open Go.Proofs.YthmkkbihfdcbiaaGreatDoorW.PrintWords

theorem two_drew (w : World) (o1 o2 : Obj) : w.heap.size + 1 < ((w.alloc o1).alloc o2).drew.heap.size := by
  show w.heap.size + 1 < ((w.alloc o1).alloc o2).heap.size
  simp

theorem two_drew_at (w : World) (o1 o2 : Obj) : ((w.alloc o1).alloc o2).drew.heap[w.heap.size + 1]? = some o2 :=
  show ((w.alloc o1).alloc o2).heap[w.heap.size + 1]? = some o2 from heap_alloc_at (by simp) _

theorem two_drew0 (w : World) (o1 o2 : Obj) : w.heap.size < ((w.alloc o1).alloc o2).drew.heap.size := by
  show w.heap.size < ((w.alloc o1).alloc o2).heap.size
  simp <;> omega

theorem two_drew_at0 (w : World) (o1 o2 : Obj) : ((w.alloc o1).alloc o2).drew.heap[w.heap.size]? = some o1 :=
  show ((w.alloc o1).alloc o2).heap[w.heap.size]? = some o1 from heap_alloc_old (heap_alloc_new w _) _

set_option maxRecDepth 100000 in
set_option maxHeartbeats 2000000 in
theorem alone_row (proto : Int) (plain rb sb : Bool) (ms ct fr : Int) (hf : (cfgOf plain rb sb ms ct fr).fit) (o : WOp) (ro : ROp) (F : RGot → RGot) (op a1 a2 a3 a4 a5 : Int) (A : Option Addr) (nA cA : Nat)
    (Aw : Option Addr) (cw : Nat) (At : Option Addr) (ct' : Nat) (X : List UInt8) (zs : List Int) (g : RGot) (v : Value) (w : World) (hE : EofAt w)
    (hsw : ∀ W, Below w.heap.size w W → StepWrites W o op a1 a2 a3 a4 a5 A nA cA) (hsr : StepReads ro F op a1 a2 a3 a4 a5 A nA cA) (hcost : o.cost ≤ 1000000)
    (hw : (Kd.int .u8).C w Aw (ints X).length (ints X)) (hcw : (ints X).length ≤ cw) (ht : (Kd.int .u8).C w At zs.length zs) (hct : zs.length ≤ ct') (h8 : ∀ x ∈ zs, 0 ≤ x ∧ x < 256) (hzl : zs.length ≤ 1000000) (hv : RowB g.s v w)
    (hX1 : 1 ≤ X.length) (hX : encC proto (cfgOf plain rb sb ms ct fr) [o] = (X, 0)) {g0 : RGot} {st' : CSt} (hr : rdC proto (cfgOf plain rb sb ms ct fr) (CR0, X ++ toB zs) ro = some (g0, 0, (st', toB zs))) (hF : F g0 = g) :
    Calls Tryz.prog 20 #[confV proto plain rb sb ms ct fr, .agg #[.int .i64 op, .int .i64 a1, .int .i64 a2, .int .i64 a3, .int .i64 a4, .int .i64 a5, .slice A nA cA], .slice Aw (ints X).length cw, .slice At zs.length ct', gotV g v] w fun e w' => e = .returned (.bool true) ∧ Below w.heap.size w w' := by
  have HWT := Lib.hid (fun W b (hB : Below w.heap.size w W) hb hbl => Write_any proto plain rb sb ms ct fr o op a1 a2 a3 a4 a5 A nA cA W b (hsw W hB) (by omega) hb hbl (by rw [hX]))
  rw [hX] at HWT
  have hv0 := hv
  obtain ⟨av, cv, rfl, hcv, hCv⟩ := hv0
  clear hcv hCv
  have hXl : X.length ≤ 1000000 := by
    have h1 := enc_len proto (cfgOf plain rb sb ms ct fr) [o]
    rw [hX, costs_cons, costs_nil] at h1
    dsimp only at h1
    omega
  go_enter Tryz.func20, Tryz.ntmps20
  go_wp2_with (fail)
  obtain ⟨W0, hW0⟩ : ∃ W0, W0 = (((w.alloc (.cells #[.int .i64 proto, .bool plain, .bool rb, .bool sb, .int .i32 ms, .int .i32 ct, .int .i32 fr] 25)).alloc (.cells #[.int .i64 op, .int .i64 a1, .int .i64 a2, .int .i64 a3, .int .i64 a4, .int .i64 a5, .slice A nA cA] 46)).alloc (.cells #[.int .i64 0, .int .i64 g.t, .int .i64 g.k, .int .i64 g.size, .int .i64 g.id, .int .i64 g.n, .slice av (ints g.s).length cv] 48)).alloc (.cells #[.int .i64 op, .int .i64 a1, .int .i64 a2, .int .i64 a3, .int .i64 a4, .int .i64 a5, .slice A nA cA] 46) := ⟨_, rfl⟩
  have hs0 : W0.heap.size = w.heap.size + 1 + 1 + 1 + 1 := by rw [hW0]; simp
  have HBC := Lib.hid (show Box7 w.heap.size (.int .i64 proto) (.bool plain) (.bool rb) (.bool sb) (.int .i32 ms) (.int .i32 ct) (.int .i32 fr) W0 from by rw [hW0]; exact Box7.at_ (heap_alloc_old (heap_alloc_old (heap_alloc_old (heap_alloc_new w _) _) _) _))
  have HBS := Lib.hid (show Box7 (w.heap.size + 1) (.int .i64 op) (.int .i64 a1) (.int .i64 a2) (.int .i64 a3) (.int .i64 a4) (.int .i64 a5) (.slice A nA cA) W0 from by rw [hW0]; exact Box7.at_ (heap_alloc_old (heap_alloc_old (heap_alloc_at (by simp) _) _) _))
  have HBG := Lib.hid (show Box7 (w.heap.size + 1 + 1) (.int .i64 0) (.int .i64 g.t) (.int .i64 g.k) (.int .i64 g.size) (.int .i64 g.id) (.int .i64 g.n) (.slice av (ints g.s).length cv) W0 from by rw [hW0]; exact Box7.at_ (heap_alloc_old (heap_alloc_at (by simp) _) _))
  have HBR := Lib.hid (show Box7 (w.heap.size + 1 + 1 + 1) (.int .i64 op) (.int .i64 a1) (.int .i64 a2) (.int .i64 a3) (.int .i64 a4) (.int .i64 a5) (.slice A nA cA) W0 from by rw [hW0]; exact Box7.at_ (heap_alloc_at (by simp) _))
  have HB0 := Lib.hid (show Below w.heap.size w W0 from by rw [hW0]; exact ((((Below.refl _ w).alloc (Nat.le_refl _) _).alloc (by simp) _).alloc (by simp <;> omega) _).alloc (by simp <;> omega) _)
  rw [← hW0]
  clear hW0
  refine (HWT.out W0 _ HB0.out HBR.out (by omega)).mono ?_
  rintro e W1 ⟨v1, k1, q, cq, rfl, hi1, ⟨hq1, hcq⟩, hB1⟩
  obtain ⟨ao, ca, rfl, hca, hCa⟩ := hi1.ints
  have hql := World.block_lt_of_cell? W1 _ hq1
  dsimp only at hql
  have HW1 := Lib.hid (HB0.out.trans (hB1.mono (by omega)))
  have HB1 := Lib.hid hB1
  have hs1 := hB1.size
  have HEQ := Lib.hid (equal_any hCa hca (Kd.C_below hw HW1.out) hcw)
  have HCA := Lib.hid hCa
  have HQ1 := Lib.hid hq1
  clear hi1 hB1 hq1 hCa
  go_wp2_with (fail)
  refine HEQ.out.mono ?_
  rintro e W2 ⟨rfl, hD⟩
  simp only [decide_true]
  have HB2 := Lib.hid (HB1.out.trans (hD.below.mono hs1))
  have HD := Lib.hid hD.below
  have hq2 : W2.cell? ⟨q, 0, none⟩ = some (.int .i64 0) := (hD.below.cell (p := ⟨q, 0, none⟩) hql).trans HQ1.out
  clear hD
  have hs2 := HB2.out.size
  have hlt1 : w.heap.size < W2.heap.size := by omega
  have hlt2 : w.heap.size + 1 < W2.heap.size := by omega
  obtain ⟨p0, p1, p2, p3, p4, p5, p6⟩ := HBC.out.of HB2.out (by omega)
  obtain ⟨r0, r1, r2, r3, r4, r5, r6⟩ := HBS.out.of HB2.out (by omega)
  have HJ := Lib.hid (fun W blk (hB : Below W2.heap.size W2 W) (h0 : W.cell? ⟨blk, 0, none⟩ = some (.slice ao (ints X).length ca)) (h1 : W.cell? ⟨blk, 1, none⟩ = some (.slice At zs.length ct')) => joined_any (W := W) blk 2 [ints X, zs] (by simp) (by simp) (by simp) (by simp [ints_length]; omega) (fun j p hj => by
    match j, hj with
    | 0, hj => simp only [List.getElem?_cons_zero, Option.some.injEq] at hj; subst hj; exact ⟨_, _, h0, hca, Kd.C_below (Kd.C_below HCA.out HD.out) hB⟩
    | 1, hj => simp only [List.getElem?_cons_succ, List.getElem?_cons_zero, Option.some.injEq] at hj; subst hj; exact ⟨_, _, h1, hct, Kd.C_below (Kd.C_below ht (HB0.out.trans (HB2.out.mono (by omega)))) hB⟩
    | j + 2, hj => simp at hj))
  have HPS := Lib.hid (fun W (hB : Below W2.heap.size W2 W) => show W.cell? ⟨w.heap.size, 0, none⟩ = some (.int .i64 proto) ∧ W.cell? ⟨w.heap.size, 1, none⟩ = some (.bool plain) ∧ W.cell? ⟨w.heap.size, 2, none⟩ = some (.bool rb) ∧ W.cell? ⟨w.heap.size, 3, none⟩ = some (.bool sb) ∧ W.cell? ⟨w.heap.size, 4, none⟩ = some (.int .i32 ms) ∧ W.cell? ⟨w.heap.size, 5, none⟩ = some (.int .i32 ct) ∧ W.cell? ⟨w.heap.size, 6, none⟩ = some (.int .i32 fr) ∧ W.cell? ⟨w.heap.size + 1, 0, none⟩ = some (.int .i64 op) ∧ W.cell? ⟨w.heap.size + 1, 1, none⟩ = some (.int .i64 a1) ∧ W.cell? ⟨w.heap.size + 1, 2, none⟩ = some (.int .i64 a2) ∧ W.cell? ⟨w.heap.size + 1, 3, none⟩ = some (.int .i64 a3) ∧ W.cell? ⟨w.heap.size + 1, 4, none⟩ = some (.int .i64 a4) ∧ W.cell? ⟨w.heap.size + 1, 5, none⟩ = some (.int .i64 a5) ∧ W.cell? ⟨w.heap.size + 1, 6, none⟩ = some (.slice A nA cA) from by
    have hB' := HB2.out.trans (hB.mono hs2)
    obtain ⟨p0, p1, p2, p3, p4, p5, p6⟩ := HBC.out.of hB' (by omega)
    obtain ⟨r0, r1, r2, r3, r4, r5, r6⟩ := HBS.out.of hB' (by omega)
    exact ⟨p0, p1, p2, p3, p4, p5, p6, r0, r1, r2, r3, r4, r5, r6⟩)
  obtain ⟨ys, hys⟩ : ∃ ys : List Int, [ints X, zs].flatten = ys := ⟨_, rfl⟩
  have hysB : toB ys = X ++ toB zs := by
    rw [← hys]
    have := toB_ints X
    unfold toB at this ⊢
    simp [this]
  have hys8 : ∀ x ∈ ys, 0 ≤ x ∧ x < 256 := by
    rw [← hys]
    intro x hx
    simp only [List.flatten_cons, List.flatten_nil, List.append_nil, List.mem_append] at hx
    rcases hx with hx | hx
    · obtain ⟨y, _, rfl⟩ := List.mem_map.1 hx
      have := y.toNat_lt
      omega
    · exact h8 x hx
  have hysl : 1 ≤ ys.length ∧ ys.length ≤ 2000000 := by
    rw [← hys]
    simp [ints_length]
    omega
  rw [hys] at HJ
  have HRD := Lib.hid (fun W D cd b (hEW : EofAt W) (hD : (Kd.int .u8).C W D ys.length ys) hb hbl => Read_C proto plain rb sb ms ct fr hf ro F op a1 a2 a3 a4 a5 A nA cA hsr D cd ys b W hEW hD hys8 hysl.1 (by omega) hb hbl (by rw [hysB]; exact hr))
  have HEO := Lib.hid (fun W (hB : Below W2.heap.size W2 W) => hE.below (HB0.out.trans ((HB2.out.mono (by omega)).trans (hB.mono (by omega)))) hE.lt)
  clear hys hys8 hysB hr hsr h8
  go_wp2_with (fail)
  go_region_held3 (fun W' => W'.cell? ⟨w.heap.size, 0, none⟩ = some (.int .i64 proto) ∧ W'.cell? ⟨w.heap.size, 1, none⟩ = some (.bool plain) ∧ W'.cell? ⟨w.heap.size, 2, none⟩ = some (.bool rb) ∧ W'.cell? ⟨w.heap.size, 3, none⟩ = some (.bool sb) ∧ W'.cell? ⟨w.heap.size, 4, none⟩ = some (.int .i32 ms) ∧ W'.cell? ⟨w.heap.size, 5, none⟩ = some (.int .i32 ct) ∧ W'.cell? ⟨w.heap.size, 6, none⟩ = some (.int .i32 fr) ∧ W'.cell? ⟨w.heap.size + 1, 0, none⟩ = some (.int .i64 op) ∧ W'.cell? ⟨w.heap.size + 1, 1, none⟩ = some (.int .i64 a1) ∧ W'.cell? ⟨w.heap.size + 1, 2, none⟩ = some (.int .i64 a2) ∧ W'.cell? ⟨w.heap.size + 1, 3, none⟩ = some (.int .i64 a3) ∧ W'.cell? ⟨w.heap.size + 1, 4, none⟩ = some (.int .i64 a4) ∧ W'.cell? ⟨w.heap.size + 1, 5, none⟩ = some (.int .i64 a5) ∧ W'.cell? ⟨w.heap.size + 1, 6, none⟩ = some (.slice A nA cA)) (first | exact ⟨p0, p1, p2, p3, p4, p5, p6, r0, r1, r2, r3, r4, r5, r6⟩ | (simp [go_sem, *]; done) | exact HPS.out _ HB3.out | exact HPS.out _ (HB3.out.alloc HB3.out.size _) | exact HPS.out _ (HB3.out.alloc HB3.out.size _).drew | exact HPS.out _ HB3.out.drew | exact HPS.out _ HB4.out)
    (first
      | (go_at_call 19; refine (HJ.out _ _ (by repeat (first | (with_reducible exact Below.refl _ _) | (with_reducible refine Below.drew ?_) | (with_reducible refine Below.alloc ?_ (by simp <;> omega) _))) (by simp [go_sem]) (by simp [go_sem])).mono ?_; rintro e W3 ⟨v3, rfl, hR3, hB3⟩; obtain ⟨D, cd, rfl, hcd, hCd⟩ := Kd.R_reads hR3; have HRW := Lib.hid hB3; have HB3 := Lib.hid ((show Below W2.heap.size W2 _ from (by repeat (first | (with_reducible exact Below.refl _ _) | (with_reducible refine Below.drew ?_) | (with_reducible refine Below.alloc ?_ (by simp <;> omega) _)))).trans (hB3.mono (by simp <;> omega))); have HCD := Lib.hid hCd; clear hR3 hB3 hCd)
      | (go_at_call 25; with_reducible refine (HRD.out _ D cd _ (HEO.out _ (HB3.out.alloc HB3.out.size _)) (Kd.C_below HCD.out ((Below.refl _ W3).alloc (Nat.le_refl _) _)) (Box7.at_ (heap_alloc_new _ _)) (by simp)).mono ?_; rintro e W4 ⟨q4, cap4, v4, kb4, rfl, hG4, hv4, hB4⟩; have HB4 := Lib.hid ((HB3.out.alloc HB3.out.size _).trans (hB4.mono (by have := HB3.out.size; simp <;> omega))); have HG4 := Lib.hid hG4; have HV4 := Lib.hid hv4; clear hG4 hv4 hB4)
      | (go_at_call 25; with_reducible refine (HRD.out _ D cd _ (HEO.out _ HB3.out) HCD.out ?_ ?_).mono ?_; (first | exact Box7.at_ ((HRW.out.block _ (two_drew W2 _ _)).trans (two_drew_at W2 _ _)) | exact Box7.at_ ((HRW.out.block _ (two_drew0 W2 _ _)).trans (two_drew_at0 W2 _ _))); (first | exact Nat.lt_of_lt_of_le (two_drew W2 _ _) HRW.out.size | exact Nat.lt_of_lt_of_le (two_drew0 W2 _ _) HRW.out.size); rintro e W4 ⟨q4, cap4, v4, kb4, rfl, hG4, hv4, hB4⟩; have HB4 := Lib.hid (HB3.out.trans (hB4.mono HB3.out.size)); have HG4 := Lib.hid hG4; have HV4 := Lib.hid hv4; clear hG4 hv4 hB4))
  all_goals (
    have hs4 := HB4.out.size
    obtain ⟨s0, s1, s2, s3, s4, s5, s6⟩ := HBG.out.of (HB2.out.trans (HB4.out.mono hs2)) (by omega)
    have hzl2 : (toB zs).length = zs.length := by simp [toB]
    rw [hF] at HG4 HV4
    have hq4l := World.block_lt_of_cell? W4 _ HG4.out.1
    dsimp only at hq4l
    have HSG := Lib.hid (fun W b (hB : Below W4.heap.size W4 W) (hb : GotAt b 0 g (.slice av (ints g.s).length cv) W) => sameGot_one q4 b cap4 1 g v4 (.slice av (ints g.s).length cv) W (Box7.of HG4.out hB hq4l) hb (HV4.out.rowB.below hB) (hv.below (HB0.out.trans ((HB2.out.mono (by omega)).trans ((HB4.out.mono (by omega)).trans (hB.mono (by omega)))))))
    go_wp2_with (fail)
    refine (HSG.out _ W4.heap.size ((Below.refl _ W4).alloc (Nat.le_refl _) _) (Box7.at_ (heap_alloc_new W4 _))).mono ?_
    rintro e W5 ⟨rfl, hB5⟩
    have HB5 := Lib.hid (HB4.out.trans ((((Below.refl _ W4).alloc (Nat.le_refl _) _).trans (hB5.mono (by simp))).mono hs4))
    clear hB5
    go_wp2_with (fail)
    go_ret
    exact ⟨rfl, HB0.out.trans ((HB2.out.trans (HB5.out.mono hs2)).mono (by omega))⟩)
  done

end Go.Proofs.YthmkkbihfdcbiaaGreatDoor

/-! Numbers by seven bits, the lowest byte first, the highest first: the laws' own words for them. -/
namespace Go.Proofs.YthmkkbihfdcbiaaGreatDoor

open Go.RowKit Go.Deep

set_option linter.unusedVariables false

set_option linter.unusedSimpArgs false

open Go.Proofs.YthmkkbihfdcbiaaGreatDoorW.PrintWords

theorem u8_or128 : ∀ a : Fin 256, bits .or .u8 ((a.val : Nat) : Int) 128 = ((a.val % 128 + 128 : Nat) : Int) := by decide +kernel

theorem seven_l0 : ∀ (k N : Nat) (acc : List Int), N < 128 ^ (k + 1) → acc.length + k + 1 ≤ 1000 → laws_seven.l0 (k + 1) (N : Int) acc = some (acc ++ ints (Lib.uvarint N))
  | 0, N, acc, h, hl => by
    have hN : N < 128 := by simpa using h
    rw [laws_seven.l0, if_neg (by omega), if_pos (by omega), Lib.uvarint_small hN]
    simp [ints]
  | k + 1, N, acc, h, hl => by
    by_cases hN : N < 128
    · rw [laws_seven.l0, if_neg (by omega), if_pos (by omega), Lib.uvarint_small hN]
      simp [ints]
    · have hd : N / 128 < 128 ^ (k + 1) := by
        rw [Nat.div_lt_iff_lt_mul (by omega)]
        rw [Nat.pow_succ] at h
        exact h
      have e : (N : Int) / 128 = ((N / 128 : Nat) : Int) := by omega
      have e2 : bits .or .u8 ((N : Int) % 256) 128 = ((N % 128 + 128 : Nat) : Int) := by
        have := u8_or128 ⟨N % 256, by omega⟩
        rw [show ((N : Int) % 256) = ((N % 256 : Nat) : Int) by omega, this]
        simp only [Int.ofNat_inj]
        omega
      rw [laws_seven.l0, if_pos (by omega), if_pos (by omega), e, e2, seven_l0 k (N / 128) _ hd (by simp; omega), Lib.uvarint_big (x := N) (by omega)]
      have e3 : ((N % 128 + 128).toUInt8).toNat = N % 128 + 128 := by
        simp only [Nat.toUInt8, UInt8.toNat_ofNat']
        omega
      simp [ints, e3]
      omega

theorem seven_f (N : Nat) (h : N < 18446744073709551616) : laws_seven.f 10 (N : Int) = some (ints (Lib.uvarint N)) := by
  unfold laws_seven.f
  rw [seven_l0 9 N [] (Nat.lt_of_lt_of_le h (by decide)) (by simp)]
  rfl

theorem seven_any (N : Nat) (h : N < 18446744073709551616) (w : World) : Calls Tryz.prog 18 #[.int .u64 (N : Int)] w fun e w' => ∃ v : Value, e = .returned v ∧ Kd.R (Kd.int .u8) 5 w' w.heap.size (fun _ => True) v (ints (Lib.uvarint N)) ∧ Below w.heap.size w w' :=
  laws_seven.calls 10 _ _ w (seven_f N h)

end Go.Proofs.YthmkkbihfdcbiaaGreatDoor

/-! Numbers by the compact protocol, written and read back: plain. -/
namespace Go.Proofs.YthmkkbihfdcbiaaGreatDoor

open Go.RowKit Go.Deep

set_option linter.unusedVariables false

set_option linter.unusedSimpArgs false

theorem encC_one (c : Cfg) (o : WOp) (hf : o.fit) : encC 1 c [o] = ((cmpRun CW0 o).2.1, (cmpRun CW0 o).2.2) := by
  have h : (cmpRun CW0 o).2.1.length ≤ o.cost := cmpO_len CW0 okW_0 o hf
  unfold encC
  rw [if_pos rfl]
  unfold runs
  simp only [cmpStep, cmpO, List.take_of_length_le h, List.nil_append, runs]
  split
  · next h2 => rw [h2]
  · rfl

end Go.Proofs.YthmkkbihfdcbiaaGreatDoor

/-! Begins of lists, sets and maps by the compact protocol, written and read back: plain. -/
namespace Go.Proofs.YthmkkbihfdcbiaaGreatDoor

open Go.RowKit Go.Deep

set_option linter.unusedVariables false

set_option linter.unusedSimpArgs false

open Go.Proofs.YthmkkbihfdcbiaaGreatDoorW.PrintWords

theorem wide_of {proto : Int} {plain rb sb : Bool} {ms ct fr : Int} (h : laws_isWide.f proto plain rb sb ms ct fr = some true) : 1048576 ≤ (cfgOf plain rb sb ms ct fr).message ∧ 65536 ≤ (cfgOf plain rb sb ms ct fr).container := by
  unfold laws_isWide.f at h
  unfold Cfg.message Cfg.container orElse cfgOf
  cases plain
  · simp only [Bool.false_eq_true, if_false] at h ⊢
    by_cases h1 : ms ≤ 0
    · rw [if_pos h1] at h ⊢
      by_cases h2 : ct ≤ 0
      · rw [if_pos h2]; omega
      · rw [if_neg h2] at h ⊢
        by_cases h3 : ct > 65536
        · omega
        · rw [if_neg h3] at h; simp at h
    · rw [if_neg h1] at h ⊢
      by_cases h4 : ms > 1048576
      · rw [if_pos h4] at h
        by_cases h2 : ct ≤ 0
        · rw [if_pos h2]; omega
        · rw [if_neg h2] at h ⊢
          by_cases h3 : ct > 65536
          · omega
          · rw [if_neg h3] at h; simp at h
      · rw [if_neg h4] at h; simp at h
  · simp

theorem isWide_f (proto : Int) (plain rb sb : Bool) (ms ct fr : Int) : ∃ b, laws_isWide.f proto plain rb sb ms ct fr = some b := by
  unfold laws_isWide.f
  (repeat' split) <;> exact ⟨_, rfl⟩

end Go.Proofs.YthmkkbihfdcbiaaGreatDoor

/-! Texts and begins of messages by the compact protocol, written and read back: plain. -/
namespace Go.Proofs.YthmkkbihfdcbiaaGreatDoor

open Go.RowKit Go.Deep

set_option linter.unusedVariables false

set_option linter.unusedSimpArgs false

theorem v64_nat (n : Nat) (h : n ≤ 2147483647) (R : List UInt8) : v64 (Lib.uvarint n ++ R) = some ((n : Int), R) := by
  have hv := v64_uvarint n R (by omega)
  rw [show wrap64 ((n : Nat) : Int) = n from by unfold wrap64; omega] at hv
  exact hv

theorem sizeK_text (c : Cfg) (n : Nat) (hm : 1048576 ≤ c.message) (hl : n ≤ 1048576) : sizeK c (n : Int) = 0 := by
  unfold sizeK
  rw [if_neg (by omega), if_neg (by omega)]

theorem rdStr_any (c : Cfg) (hm : 1048576 ≤ c.message) (s : List UInt8) (hl : s.length ≤ 1048576) (R : List UInt8) : cRdStr c (cText s ++ R) = some (s, 0, R) := by
  have hw : wrap32 (s.length : Int) = s.length := by unfold wrap32; omega
  unfold cRdStr cText
  rw [List.append_assoc, v64_nat _ (by omega), Option.bind_some]
  dsimp only
  rw [hw, if_pos (sizeK_text c _ hm hl), Int.toNat_natCast]
  unfold takeN
  rw [if_pos (by simp), Option.map_some, List.take_left' rfl, List.drop_left' rfl]

theorem rdMsg_any (c : Cfg) (hm : 1048576 ≤ c.message) (s : List UInt8) (hl : s.length ≤ 1048576) (n : Int) (h0 : -2147483648 ≤ n) (h1 : n < 2147483648) (y : UInt8) (R : List UInt8) (hy : (y.toNat : Int) % 32 = 1) :
    cRdMsg c CR0 y ((Lib.uvarint (n % 4294967296).toNat ++ cText s) ++ R) = some ({ s := s, t := (y.toNat : Int) / 32, n := n }, 0, (CR0, R)) := by
  have hv := v64_uvarint (n % 4294967296).toNat (cText s ++ R) (by omega)
  have hw : wrap32 (wrap64 (((n % 4294967296).toNat : Nat) : Int)) = n := by unfold wrap32 wrap64; omega
  unfold cRdMsg
  rw [if_pos hy, List.append_assoc, hv, Option.bind_some]
  dsimp only
  rw [rdStr_any c hm s hl, hw]
  rfl

theorem rdMsg_not (c : Cfg) (y : UInt8) (R : List UInt8) (hy : ¬ (y.toNat : Int) % 32 = 1) : cRdMsg c CR0 y R = some ({ t := (y.toNat : Int) / 32 }, 14, (CR0, R)) := by
  unfold cRdMsg
  rw [if_neg hy]

theorem rdC_msg (c : Cfg) (x y : UInt8) (L : List UInt8) : rdC 1 c (CR0, x :: y :: L) .msgB = if (x.toNat : Int) = 130 then cRdMsg c CR0 y L else some ({}, 14, (CR0, y :: L)) := by
  unfold rdC
  rw [if_pos rfl]
  rfl

theorem wr_msg (s : List UInt8) (t : Nat) (n : Int) (ht : t ≤ 7) : (cmpRun CW0 (.msgB s (t : Int) n)).2.1 = (130 : UInt8) :: (t * 32 + 1).toUInt8 :: (Lib.uvarint (n % 4294967296).toNat ++ cText s) ∧ (cmpRun CW0 (.msgB s (t : Int) n)).2.2 = 0 := by
  refine ⟨?_, rfl⟩
  show (130 : UInt8) :: (1 + ((t : Int) % 8).toNat * 32).toUInt8 :: (Lib.uvarint (n % 4294967296).toNat ++ cText s) = _
  rw [show 1 + ((t : Int) % 8).toNat * 32 = t * 32 + 1 by omega]

theorem byte_kind {t : Nat} (ht : t ≤ 7) : ((t * 32 + 1).toUInt8).toNat = t * 32 + 1 := by
  simp only [Nat.toUInt8, UInt8.toNat_ofNat']
  omega

/-- A message's begin is read back. -/
theorem rd_msg (c : Cfg) (hm : 1048576 ≤ c.message) (s : List UInt8) (hl : s.length ≤ 1048576) (t : Nat) (ht : t ≤ 7) (n : Int) (h0 : -2147483648 ≤ n) (h1 : n < 2147483648) (R : List UInt8) :
    rdC 1 c (CR0, ((130 : UInt8) :: (t * 32 + 1).toUInt8 :: (Lib.uvarint (n % 4294967296).toNat ++ cText s)) ++ R) .msgB = some ({ s := s, t := (t : Int), n := n }, 0, (CR0, R)) := by
  have hb := byte_kind ht
  rw [List.cons_append, List.cons_append, rdC_msg, if_pos (by decide), rdMsg_any c hm s hl n h0 h1 _ R (by rw [hb]; omega), hb]
  rw [show (((t * 32 + 1 : Nat) : Int)) / 32 = t by omega]

/-- A begin with another first byte or version is refused, another kind is told. -/
theorem rd_msg2 (c : Cfg) (hm : 1048576 ≤ c.message) (s : List UInt8) (hl : s.length ≤ 1048576) (x y : UInt8) (n : Int) (h0 : -2147483648 ≤ n) (h1 : n < 2147483648) (R : List UInt8) :
    ∃ g k st', rdC 1 c (CR0, x :: y :: ((Lib.uvarint (n % 4294967296).toNat ++ cText s) ++ R)) .msgB = some (g, k, st') ∧ ((¬ (x.toNat : Int) = 130 ∨ ¬ (y.toNat : Int) % 32 = 1) → k = 14) ∧ ((x.toNat : Int) = 130 → (y.toNat : Int) % 32 = 1 → k = 0 ∧ g.t = (y.toNat : Int) / 32) := by
  rw [rdC_msg]
  by_cases hx : (x.toNat : Int) = 130
  · rw [if_pos hx]
    by_cases hy : (y.toNat : Int) % 32 = 1
    · exact ⟨_, _, _, rdMsg_any c hm s hl n h0 h1 y R hy, fun h => by rcases h with h | h <;> exact absurd (by assumption) h, fun _ _ => ⟨rfl, rfl⟩⟩
    · exact ⟨_, _, _, rdMsg_not c y _ hy, fun _ => rfl, fun _ h => absurd h hy⟩
  · rw [if_neg hx]
    exact ⟨_, _, _, rfl, fun _ => rfl, fun h => absurd h hx⟩

end Go.Proofs.YthmkkbihfdcbiaaGreatDoor

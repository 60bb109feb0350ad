/- One step alone, written and read back. No condition. -/
import Derived.Test.YthmkkbihfdcbiaaGreatDoorMn
import Derived.Test.YthmkkbihfdcbiaaGreatDoorMv4
import Derived.Test.YthmkkbihfdcbiaaGreatDoorMe
import Derived.Test.YthmkkbihfdcbiaaGreatDoorMv3
import Derived.Test.YthmkkbihfdcbiaaGreatDoorMr
import Derived.Deep.QuietTactic
import Derived.BigQuiet
import Derived.Test.YthmkkbihfdcbiaaGreatDoorMr2
import Derived.Test.YthmkkbihfdcbiaaGreatDoorMg1
import Derived.Test.YthmkkbihfdcbiaaGreatDoorMb1
import Derived.Test.YthmkkbihfdcbiaaGreatDoorMd1
/-! Steps that are written and steps that are read: which calls they come to. -/
namespace Go.Proofs.YthmkkbihfdcbiaaGreatDoor

open Go.RowKit Go.Deep

set_option linter.unusedVariables false

set_option linter.unusedSimpArgs false

open Go.Proofs.YthmkkbihfdcbiaaGreatDoorW.PrintWords

section

variable (w0 : World) (a1 a2 a3 a4 : Int) (A : Option Addr) (nA cA : Nat)

end

section

variable (a1 a2 a3 a4 a5 : Int) (A : Option Addr) (nA cA : Nat)

end

end Go.Proofs.YthmkkbihfdcbiaaGreatDoor

/-! Texts, binaries and uuids as single steps are written by whatever protocol. Printed by a program (wip/tools/p23.py). -/
namespace Go.Proofs.YthmkkbihfdcbiaaGreatDoor

open Go.RowKit Go.Deep Go.Proofs.YthmkkbihfdcbiaaGreatDoorW.PrintWords

set_option linter.unusedVariables false

set_option linter.unusedSimpArgs false

set_option maxRecDepth 100000 in
set_option maxHeartbeats 4000000 in
theorem write_str (P : PW) (v1 v2 v3 v4 v5 : Value) (A : Option Addr) (c : Nat) (xs : List Int) {S : List Nat} {s : P.σ} {w w0 : World} (h : P.Is S s w) (hx : (Kd.int .u8).C w0 A xs.length xs) (hB : Below w0.heap.size w0 w) (hS : ∀ k, k ∈ S → w0.heap.size ≤ k) (hl : xs.length ≤ 2147483647) (hr : P.room s + WOp.cost (.str (toB xs)) ≤ 140737488355328) :
    Calls Tryz.prog 62 #[.iface P.ty P.ptr, .agg #[.int .i64 19, v1, v2, v3, v4, v5, .slice A xs.length c]] w (Did P.Is S w (P.run s (.str (toB xs)))) := by
  have hm := P.meth (.str (toB xs))
  have hn := P.ahead (.str (toB xs))
  have hen := P.ent (.str (toB xs))
  have hc := ctx_any
  obtain ⟨r, hrr⟩ : ∃ r, P.run s (.str (toB xs)) = r := ⟨_, rfl⟩
  have hO := P.at_ h (.str (toB xs)) rfl (by show (toB xs).length ≤ _; unfold toB; simpa using hl) hr
  rw [hrr] at hO ⊢
  have HO := Lib.hid hO
  have HF := Lib.hid (P.fresh h)
  have hC : ∀ o, (Kd.int .u8).C (w.alloc o).drew A xs.length xs := fun o => Kd.C_below hx ((hB.alloc hB.size o).drew)
  have hV : ∀ W, Below w0.heap.size w0 W → (convert 26 9 (.slice A xs.length c)).run Tryz.prog W = .ok (strV (toB xs)) W := fun W hW => Kd.C_string Tryz.underlying26 Tryz.underlying5 Tryz.underlying9 (Kd.C_below hx hW)
  have HV := Lib.hid hV
  have HB := Lib.hid (show ∀ o, Below w0.heap.size w0 (w.alloc o).drew from fun o => (hB.alloc hB.size o).drew)
  have hI2 : ∀ {o S1 W1}, Step S S1 (w.alloc o).drew W1 → Below w0.heap.size w0 W1 := fun {o S1 W1} hs => ((hB.alloc hB.size o).drew).trans (hs.below _ (by have := hB.size; simp; omega) hS)
  clear hC hl hV
  clear hO hrr
  change ∀ (args : Array Value) (w : World), (callFunc (P.fn "WriteString") args).run Tryz.prog w = .ok (.enter (P.fn "WriteString") args) w at hen
  change ∀ (k : Nat) (w : World), (method (k + 1) P.ty P.ptr "WriteString").run Tryz.prog w = .ok (P.fn "WriteString", P.ptr) w at hm
  change ∀ (k : Nat) (w : World), (nilAhead (k + 1) P.ty P.ptr "WriteString").run Tryz.prog w = .ok (some false) w at hn
  go_enter Tryz.func62, Tryz.ntmps62
  go_wp2_with (fail)
  go_region_held3 (fun W' => W'.cell? ⟨w.heap.size, 6, none⟩ = some (.slice A xs.length c) ∧ (convert 26 9 (.slice A xs.length c)).run Tryz.prog W' = .ok (strV (toB xs)) W') (first | exact ⟨hx1, HV.out _ (hI2 hs)⟩ | exact ⟨by simp [go_sem], HV.out _ (HB.out _)⟩)
    (first
      | (go_at_call 48; refine (hc _).mono ?_; rintro e w' ⟨rfl, rfl⟩)
      | (refine (HO.out _ ?_).mono ?_; exact ((Step.refl _ _).alloc _).drew; rintro e W1 ⟨ev, S1, rfl, he, hI, hs⟩; have hx1 := (hs.cell (p := ⟨w.heap.size, 6, none⟩) (by simp) HF.out).trans (cell_heap (heap_alloc_new _ _) 6)))
  all_goals go_wp2
  all_goals go_ret
  all_goals exact ⟨_, _, rfl, he, hI, (((Step.refl _ _).alloc _).drew).trans hs⟩

set_option maxRecDepth 100000 in
set_option maxHeartbeats 4000000 in
theorem write_bin (P : PW) (v1 v2 v3 v4 v5 : Value) (A : Option Addr) (c : Nat) (xs : List Int) {S : List Nat} {s : P.σ} {w w0 : World} (h : P.Is S s w) (hx : (Kd.int .u8).C w0 A xs.length xs) (hB : Below w0.heap.size w0 w) (hS : ∀ k, k ∈ S → w0.heap.size ≤ k) (h8 : ∀ x ∈ xs, 0 ≤ x ∧ x < 256) (hl : xs.length ≤ 2147483647) (hr : P.room s + WOp.cost (.bin (toB xs)) ≤ 140737488355328) :
    Calls Tryz.prog 62 #[.iface P.ty P.ptr, .agg #[.int .i64 20, v1, v2, v3, v4, v5, .slice A xs.length c]] w (Did P.Is S w (P.run s (.bin (toB xs)))) := by
  have hm := P.meth (.bin (toB xs))
  have hn := P.ahead (.bin (toB xs))
  have hen := P.ent (.bin (toB xs))
  have hc := ctx_any
  obtain ⟨r, hrr⟩ : ∃ r, P.run s (.bin (toB xs)) = r := ⟨_, rfl⟩
  have hlen : (toB xs).length = xs.length := by simp [toB]
  have hO : ∀ W, Step [] [] w W → Below w0.heap.size w0 W → Calls Tryz.prog (P.fn "WriteBinary") #[P.ptr, ctxV, .slice A xs.length c] W (Did P.Is S W (P.run s (.bin (toB xs)))) := fun W hW hBW => by
    have hh := P.bdoes (P.step h hW (by simp)) (toB xs) A c (by
      refine ⟨fun a ha h0 => ?_, fun ha => ?_⟩
      · obtain ⟨ad, e1, hal, hc1⟩ := C_cells hx h8 (by omega)
        rw [ha] at e1
        injection e1 with e1
        subst e1
        refine ⟨⟨Nat.lt_of_lt_of_le hal hBW.size, fun hm => by have := hS _ hm; omega⟩, fun j v hj => ?_⟩
        have hc2 := hc1 j v hj
        rw [hBW.cell (by rw [Lib.block_add]; exact hal)]
        exact hc2
      · rw [hlen]
        rcases Nat.eq_zero_or_pos xs.length with h0 | h0
        · exact h0
        · obtain ⟨ad, e1, _⟩ := C_cells hx h8 h0
          rw [ha] at e1
          cases e1) (by rw [hlen]; exact hl) hr
    rw [hlen] at hh
    exact hh
  simp only [hrr] at hO
  rw [hrr]
  have HO := Lib.hid hO
  have HF := Lib.hid (P.fresh h)
  have HB := Lib.hid (show ∀ o, Below w0.heap.size w0 (w.alloc o).drew from fun o => (hB.alloc hB.size o).drew)
  clear hO hrr hl
  change ∀ (args : Array Value) (w : World), (callFunc (P.fn "WriteBinary") args).run Tryz.prog w = .ok (.enter (P.fn "WriteBinary") args) w at hen
  change ∀ (k : Nat) (w : World), (method (k + 1) P.ty P.ptr "WriteBinary").run Tryz.prog w = .ok (P.fn "WriteBinary", P.ptr) w at hm
  change ∀ (k : Nat) (w : World), (nilAhead (k + 1) P.ty P.ptr "WriteBinary").run Tryz.prog w = .ok (some false) w at hn
  go_enter Tryz.func62, Tryz.ntmps62
  go_wp2_with (fail)
  go_region_held3 (fun W' => W'.cell? ⟨w.heap.size, 6, none⟩ = some (.slice A xs.length c)) (first | exact hx1 | (simp [go_sem]))
    (first
      | (go_at_call 48; refine (hc _).mono ?_; rintro e w' ⟨rfl, rfl⟩)
      | (refine (HO.out _ ?_ (HB.out _)).mono ?_; exact ((Step.refl _ _).alloc _).drew; rintro e W1 ⟨ev, S1, rfl, he, hI, hs⟩; have hx1 := (hs.cell (p := ⟨w.heap.size, 6, none⟩) (by simp) HF.out).trans (cell_heap (heap_alloc_new _ _) 6)))
  all_goals go_wp2
  all_goals go_ret
  all_goals exact ⟨_, _, rfl, he, hI, (((Step.refl _ _).alloc _).drew).trans hs⟩

set_option maxRecDepth 100000 in
set_option maxHeartbeats 4000000 in
theorem write_uuid (P : PW) (v1 v2 v3 v4 v5 : Value) (A : Option Addr) (c : Nat) (xs : List Int) {S : List Nat} {s : P.σ} {w w0 : World} (h : P.Is S s w) (hx : (Kd.int .u8).C w0 A xs.length xs) (hB : Below w0.heap.size w0 w) (hS : ∀ k, k ∈ S → w0.heap.size ≤ k) (h8 : ∀ x ∈ xs, 0 ≤ x ∧ x < 256) (hr : P.room s + WOp.cost (.uuid (u16 (toB xs))) ≤ 140737488355328) :
    Calls Tryz.prog 62 #[.iface P.ty P.ptr, .agg #[.int .i64 21, v1, v2, v3, v4, v5, .slice A xs.length c]] w (Did P.Is S w (P.run s (.uuid (u16 (toB xs))))) := by
  have hm := P.meth (.uuid (u16 (toB xs)))
  have hn := P.ahead (.uuid (u16 (toB xs)))
  have hen := P.ent (.uuid (u16 (toB xs)))
  have hc := ctx_any
  obtain ⟨r, hrr⟩ : ∃ r, P.run s (.uuid (u16 (toB xs))) = r := ⟨_, rfl⟩
  have hO := P.at_ h (.uuid (u16 (toB xs))) rfl (u16_length _) hr
  rw [hrr] at hO ⊢
  have HO := Lib.hid hO
  have HF := Lib.hid (P.fresh h)
  have hC : ∀ o, (Kd.int .u8).C (w.alloc o).drew A xs.length xs := fun o => Kd.C_below hx ((hB.alloc hB.size o).drew)
  have hU : ∀ o, Calls Tryz.prog 51 #[.slice A xs.length c] (w.alloc o).drew fun e w' => e = .returned (.agg (Lib.byteCells (u16 (toB xs))).toArray) ∧ Below (w.alloc o).drew.heap.size (w.alloc o).drew w' := fun o => uuid_of c (hC o) h8
  have HU := Lib.hid hU
  clear hU hC h8
  clear hO hrr
  change ∀ (args : Array Value) (w : World), (callFunc (P.fn "WriteUUID") args).run Tryz.prog w = .ok (.enter (P.fn "WriteUUID") args) w at hen
  change ∀ (k : Nat) (w : World), (method (k + 1) P.ty P.ptr "WriteUUID").run Tryz.prog w = .ok (P.fn "WriteUUID", P.ptr) w at hm
  change ∀ (k : Nat) (w : World), (nilAhead (k + 1) P.ty P.ptr "WriteUUID").run Tryz.prog w = .ok (some false) w at hn
  go_enter Tryz.func62, Tryz.ntmps62
  go_wp2_with (fail)
  go_region_held3 (fun W' => W'.cell? ⟨w.heap.size, 6, none⟩ = some (.slice A xs.length c)) (first | assumption | (simp [go_sem]) | exact hx2)
    (first
      | (go_at_call 48; refine (hc _).mono ?_; rintro e w' ⟨rfl, rfl⟩)
      | (go_at_call 51; refine (HU.out _).mono ?_; rintro e W0 ⟨rfl, hb⟩; have hx2 : W0.cell? ⟨w.heap.size, 6, none⟩ = some (.slice A xs.length c) := (hb.cell (p := ⟨w.heap.size, 6, none⟩) (by show w.heap.size < _; simp)).trans (cell_heap (heap_alloc_new _ _) 6))
      | (refine (HO.out _ ?_).mono ?_; exact (((Step.refl _ _).alloc _).drew).trans (Step.ofBelow hb); rintro e W1 ⟨ev, S1, rfl, he, hI, hs⟩; have hx1 := (hs.cell (p := ⟨w.heap.size, 6, none⟩) (by show w.heap.size < W0.heap.size; have := hb.size; simp at this; omega) HF.out).trans (hx2)))
  all_goals go_wp2
  all_goals go_ret
  all_goals exact ⟨_, _, rfl, he, hI, ((((Step.refl _ _).alloc _).drew).trans (Step.ofBelow hb)).trans hs⟩

theorem sw_str (w0 : World) (a1 a2 a3 a4 a5 : Int) (A : Option Addr) (cA : Nat) (xs : List Int) (hx : (Kd.int .u8).C w0 A xs.length xs) (hl : xs.length ≤ 2147483647) : StepWrites w0 (.str (toB xs)) 19 a1 a2 a3 a4 a5 A xs.length cA := fun P _ _ _ h hB hS hr => write_str P _ _ _ _ _ A cA xs h hx hB hS hl hr

theorem sw_bin (w0 : World) (a1 a2 a3 a4 a5 : Int) (A : Option Addr) (cA : Nat) (xs : List Int) (hx : (Kd.int .u8).C w0 A xs.length xs) (h8 : ∀ x ∈ xs, 0 ≤ x ∧ x < 256) (hl : xs.length ≤ 2147483647) : StepWrites w0 (.bin (toB xs)) 20 a1 a2 a3 a4 a5 A xs.length cA := fun P _ _ _ h hB hS hr => write_bin P _ _ _ _ _ A cA xs h hx hB hS h8 hl hr

theorem sw_uuid (w0 : World) (a1 a2 a3 a4 a5 : Int) (A : Option Addr) (cA : Nat) (xs : List Int) (hx : (Kd.int .u8).C w0 A xs.length xs) (h8 : ∀ x ∈ xs, 0 ≤ x ∧ x < 256) : StepWrites w0 (.uuid (u16 (toB xs))) 21 a1 a2 a3 a4 a5 A xs.length cA := fun P _ _ _ h hB hS hr => write_uuid P _ _ _ _ _ A cA xs h hx hB hS h8 hr

theorem sr_str (a1 a2 a3 a4 a5 : Int) (A : Option Addr) (nA cA : Nat) : StepReads .str (fun g => { s := g.s }) 19 a1 a2 a3 a4 a5 A nA cA := fun P _ _ _ h _ _ _ hr => read_str P _ _ _ _ _ _ h hr

theorem sr_bin (a1 a2 a3 a4 a5 : Int) (A : Option Addr) (nA cA : Nat) : StepReads .str (fun g => { s := g.s }) 20 a1 a2 a3 a4 a5 A nA cA := fun P _ _ _ h _ _ _ hr => read_bin P _ _ _ _ _ _ h hr

theorem sr_uuid (a1 a2 a3 a4 a5 : Int) (A : Option Addr) (nA cA : Nat) : StepReads .uuid (fun g => { s := g.s }) 21 a1 a2 a3 a4 a5 A nA cA := fun P _ _ _ h _ _ _ hr => read_uuid P _ _ _ _ _ _ h hr

end Go.Proofs.YthmkkbihfdcbiaaGreatDoor

/-! What one step told held against what it should tell. -/
namespace Go.Proofs.YthmkkbihfdcbiaaGreatDoor

open Go.RowKit Go.Deep

set_option linter.unusedVariables false

set_option linter.unusedSimpArgs false

open Go.Proofs.YthmkkbihfdcbiaaGreatDoorW.PrintWords

/-- A row of these bytes. -/
def RowB (s : List UInt8) (v : Value) (w : World) : Prop := ∃ a c, v = .slice a (ints s).length c ∧ (ints s).length ≤ c ∧ (Kd.int .u8).C w a (ints s).length (ints s)

theorem IsB.rowB {s : List UInt8} {v : Value} {k : Nat} {w : World} (h : IsB (Lib.byteCells s) v k w) : RowB s v w := h.ints

theorem RowB.below {s : List UInt8} {v : Value} {w w1 : World} (h : RowB s v w) (hB : Below w.heap.size w w1) : RowB s v w1 := by
  obtain ⟨a, c, h1, h2, h3⟩ := h
  exact ⟨a, c, h1, h2, Kd.C_below h3 hB⟩

theorem equal_bytes {s : List UInt8} {v1 v2 : Value} {W : World} (h1 : RowB s v1 W) (h2 : RowB s v2 W) :
    Calls Tryz.prog 16 #[v1, v2] W fun e w' => e = .returned (.bool true) ∧ Drawn0 W w' := by
  obtain ⟨a1, c1, rfl, hc1, hC1⟩ := h1
  obtain ⟨a2, c2, rfl, hc2, hC2⟩ := h2
  have := equal_any hC1 hc1 hC2 hc2
  simpa using this

set_option maxRecDepth 100000 in
set_option maxHeartbeats 2000000 in
theorem sameGot_one (q1 q2 c1 c2 : Nat) (g : RGot) (v1 v2 : Value) (w : World) (h1 : GotAt q1 0 g v1 w) (h2 : GotAt q2 0 g v2 w) (b1 : RowB g.s v1 w) (b2 : RowB g.s v2 w) :
    Calls Tryz.prog 31 #[.slice (some ⟨q1, 0, none⟩) 1 c1, .slice (some ⟨q2, 0, none⟩) 1 c2] w fun e w' => e = .returned (.bool true) ∧ Below w.heap.size w w' := by
  have HQ := Lib.hid (fun W (hB : Below w.heap.size w W) => equal_bytes (b1.below hB) (b2.below hB))
  obtain ⟨a1, d1, rfl, hc1, hC1⟩ := b1
  obtain ⟨a2, d2, rfl, hc2, hC2⟩ := b2
  clear hc1 hC1 hc2 hC2
  obtain ⟨p0, p1, p2, p3, p4, p5, p6⟩ := h1
  obtain ⟨r0, r1, r2, r3, r4, r5, r6⟩ := h2
  have hq1 := World.block_lt_of_cell? w _ p0
  have hq2 := World.block_lt_of_cell? w _ r0
  dsimp only at hq1 hq2
  go_enter Tryz.func31, Tryz.ntmps31
  go_wp2_with (fail)
  refine wp_loop_rounds 2 ?_
  rw [rounds_succ]
  go_wp2_with (fail)
  go_region_held3 (fun W' => W'.cell? ⟨q1, 0, none⟩ = some (.int .i64 0) ∧ W'.cell? ⟨q1, 1, none⟩ = some (.int .i64 g.t) ∧ W'.cell? ⟨q1, 2, none⟩ = some (.int .i64 g.k) ∧ W'.cell? ⟨q1, 3, none⟩ = some (.int .i64 g.size) ∧ W'.cell? ⟨q1, 4, none⟩ = some (.int .i64 g.id) ∧ W'.cell? ⟨q1, 5, none⟩ = some (.int .i64 g.n) ∧ W'.cell? ⟨q1, 6, none⟩ = some (.slice a1 (ints g.s).length d1) ∧ W'.cell? ⟨q2, 0, none⟩ = some (.int .i64 0) ∧ W'.cell? ⟨q2, 1, none⟩ = some (.int .i64 g.t) ∧ W'.cell? ⟨q2, 2, none⟩ = some (.int .i64 g.k) ∧ W'.cell? ⟨q2, 3, none⟩ = some (.int .i64 g.size) ∧ W'.cell? ⟨q2, 4, none⟩ = some (.int .i64 g.id) ∧ W'.cell? ⟨q2, 5, none⟩ = some (.int .i64 g.n) ∧ W'.cell? ⟨q2, 6, none⟩ = some (.slice a2 (ints g.s).length d2)) (first | exact ⟨p0, p1, p2, p3, p4, p5, p6, r0, r1, r2, r3, r4, r5, r6⟩ | (simp [go_sem, *]; done)) (fail)
  · obtain ⟨Wa, hWa⟩ : ∃ Wa, Wa = ((w.alloc (.cells #[.int .i64 0, .int .i64 g.t, .int .i64 g.k, .int .i64 g.size, .int .i64 g.id, .int .i64 g.n, .slice a1 (ints g.s).length d1] 48)).alloc (.cells #[.int .i64 0, .int .i64 g.t, .int .i64 g.k, .int .i64 g.size, .int .i64 g.id, .int .i64 g.n, .slice a2 (ints g.s).length d2] 48)).drew := ⟨_, rfl⟩
    rw [← hWa]
    have hx : Wa.heap[w.heap.size]? = some (.cells #[.int .i64 0, .int .i64 g.t, .int .i64 g.k, .int .i64 g.size, .int .i64 g.id, .int .i64 g.n, .slice a1 (ints g.s).length d1] 48 (0, 0)) := by rw [hWa]; exact heap_alloc_old (heap_alloc_new w _) _
    have hy : Wa.heap[w.heap.size + 1]? = some (.cells #[.int .i64 0, .int .i64 g.t, .int .i64 g.k, .int .i64 g.size, .int .i64 g.id, .int .i64 g.n, .slice a2 (ints g.s).length d2] 48 (0, 0)) := by rw [hWa]; exact heap_alloc_at (by simp) _
    have HWa := Lib.hid (show Below w.heap.size w Wa from by rw [hWa]; exact (((Below.refl _ w).alloc (Nat.le_refl _) _).alloc (by simp) _).drew)
    have x0 : Wa.cell? ⟨w.heap.size, 0, none⟩ = some (.int .i64 0) := (cell_heap hx _).trans rfl
    have x1 : Wa.cell? ⟨w.heap.size, 1, none⟩ = some (.int .i64 g.t) := (cell_heap hx _).trans rfl
    have x2 : Wa.cell? ⟨w.heap.size, 2, none⟩ = some (.int .i64 g.k) := (cell_heap hx _).trans rfl
    have x3 : Wa.cell? ⟨w.heap.size, 3, none⟩ = some (.int .i64 g.size) := (cell_heap hx _).trans rfl
    have x4 : Wa.cell? ⟨w.heap.size, 4, none⟩ = some (.int .i64 g.id) := (cell_heap hx _).trans rfl
    have x5 : Wa.cell? ⟨w.heap.size, 5, none⟩ = some (.int .i64 g.n) := (cell_heap hx _).trans rfl
    have x6 : Wa.cell? ⟨w.heap.size, 6, none⟩ = some (.slice a1 (ints g.s).length d1) := (cell_heap hx _).trans rfl
    have y0 : Wa.cell? ⟨w.heap.size + 1, 0, none⟩ = some (.int .i64 0) := (cell_heap hy _).trans rfl
    have y1 : Wa.cell? ⟨w.heap.size + 1, 1, none⟩ = some (.int .i64 g.t) := (cell_heap hy _).trans rfl
    have y2 : Wa.cell? ⟨w.heap.size + 1, 2, none⟩ = some (.int .i64 g.k) := (cell_heap hy _).trans rfl
    have y3 : Wa.cell? ⟨w.heap.size + 1, 3, none⟩ = some (.int .i64 g.size) := (cell_heap hy _).trans rfl
    have y4 : Wa.cell? ⟨w.heap.size + 1, 4, none⟩ = some (.int .i64 g.id) := (cell_heap hy _).trans rfl
    have y5 : Wa.cell? ⟨w.heap.size + 1, 5, none⟩ = some (.int .i64 g.n) := (cell_heap hy _).trans rfl
    have y6 : Wa.cell? ⟨w.heap.size + 1, 6, none⟩ = some (.slice a2 (ints g.s).length d2) := (cell_heap hy _).trans rfl
    clear hx hy hWa p0 p1 p2 p3 p4 p5 p6 r0 r1 r2 r3 r4 r5 r6
    go_wp2_with (fail)
    refine (HQ.out _ HWa.out).mono ?_
    rintro e W9 ⟨rfl, hD⟩
    have HB := Lib.hid (HWa.out.trans (hD.below.mono HWa.out.size))
    clear hD
    go_wp2_with (fail)
    rw [rounds_succ]
    go_wp2_with (fail)
    go_ret
    exact ⟨rfl, HB.out⟩
  · obtain ⟨Wa, hWa⟩ : ∃ Wa, Wa = ((w.alloc (.cells #[.int .i64 0, .int .i64 g.t, .int .i64 g.k, .int .i64 g.size, .int .i64 g.id, .int .i64 g.n, .slice a2 (ints g.s).length d2] 48)).alloc (.cells #[.int .i64 0, .int .i64 g.t, .int .i64 g.k, .int .i64 g.size, .int .i64 g.id, .int .i64 g.n, .slice a1 (ints g.s).length d1] 48)).drew := ⟨_, rfl⟩
    rw [← hWa]
    have hx : Wa.heap[w.heap.size]? = some (.cells #[.int .i64 0, .int .i64 g.t, .int .i64 g.k, .int .i64 g.size, .int .i64 g.id, .int .i64 g.n, .slice a2 (ints g.s).length d2] 48 (0, 0)) := by rw [hWa]; exact heap_alloc_old (heap_alloc_new w _) _
    have hy : Wa.heap[w.heap.size + 1]? = some (.cells #[.int .i64 0, .int .i64 g.t, .int .i64 g.k, .int .i64 g.size, .int .i64 g.id, .int .i64 g.n, .slice a1 (ints g.s).length d1] 48 (0, 0)) := by rw [hWa]; exact heap_alloc_at (by simp) _
    have HWa := Lib.hid (show Below w.heap.size w Wa from by rw [hWa]; exact (((Below.refl _ w).alloc (Nat.le_refl _) _).alloc (by simp) _).drew)
    have y0 : Wa.cell? ⟨w.heap.size, 0, none⟩ = some (.int .i64 0) := (cell_heap hx _).trans rfl
    have y1 : Wa.cell? ⟨w.heap.size, 1, none⟩ = some (.int .i64 g.t) := (cell_heap hx _).trans rfl
    have y2 : Wa.cell? ⟨w.heap.size, 2, none⟩ = some (.int .i64 g.k) := (cell_heap hx _).trans rfl
    have y3 : Wa.cell? ⟨w.heap.size, 3, none⟩ = some (.int .i64 g.size) := (cell_heap hx _).trans rfl
    have y4 : Wa.cell? ⟨w.heap.size, 4, none⟩ = some (.int .i64 g.id) := (cell_heap hx _).trans rfl
    have y5 : Wa.cell? ⟨w.heap.size, 5, none⟩ = some (.int .i64 g.n) := (cell_heap hx _).trans rfl
    have y6 : Wa.cell? ⟨w.heap.size, 6, none⟩ = some (.slice a2 (ints g.s).length d2) := (cell_heap hx _).trans rfl
    have x0 : Wa.cell? ⟨w.heap.size + 1, 0, none⟩ = some (.int .i64 0) := (cell_heap hy _).trans rfl
    have x1 : Wa.cell? ⟨w.heap.size + 1, 1, none⟩ = some (.int .i64 g.t) := (cell_heap hy _).trans rfl
    have x2 : Wa.cell? ⟨w.heap.size + 1, 2, none⟩ = some (.int .i64 g.k) := (cell_heap hy _).trans rfl
    have x3 : Wa.cell? ⟨w.heap.size + 1, 3, none⟩ = some (.int .i64 g.size) := (cell_heap hy _).trans rfl
    have x4 : Wa.cell? ⟨w.heap.size + 1, 4, none⟩ = some (.int .i64 g.id) := (cell_heap hy _).trans rfl
    have x5 : Wa.cell? ⟨w.heap.size + 1, 5, none⟩ = some (.int .i64 g.n) := (cell_heap hy _).trans rfl
    have x6 : Wa.cell? ⟨w.heap.size + 1, 6, none⟩ = some (.slice a1 (ints g.s).length d1) := (cell_heap hy _).trans rfl
    clear hx hy hWa p0 p1 p2 p3 p4 p5 p6 r0 r1 r2 r3 r4 r5 r6
    go_wp2_with (fail)
    refine (HQ.out _ HWa.out).mono ?_
    rintro e W9 ⟨rfl, hD⟩
    have HB := Lib.hid (HWa.out.trans (hD.below.mono HWa.out.size))
    clear hD
    go_wp2_with (fail)
    rw [rounds_succ]
    go_wp2_with (fail)
    go_ret
    exact ⟨rfl, HB.out⟩

end Go.Proofs.YthmkkbihfdcbiaaGreatDoor

/-! A configuration with another protocol. -/
namespace Go.Proofs.YthmkkbihfdcbiaaGreatDoor

open Go.RowKit Go.Deep

set_option linter.unusedVariables false

set_option linter.unusedSimpArgs false

open Go.Proofs.YthmkkbihfdcbiaaGreatDoorW.PrintWords

theorem by_any (n proto : Int) (plain rb sb : Bool) (ms ct fr : Int) (w : World) :
    Calls Tryz.prog 14 #[.int .i64 n, confV proto plain rb sb ms ct fr] w fun e w' => e = .returned (confV n plain rb sb ms ct fr) ∧ Below w.heap.size w w' :=
  laws_by.calls n proto plain rb sb ms ct fr _ _ _ _ _ _ _ w rfl

end Go.Proofs.YthmkkbihfdcbiaaGreatDoor

/-! One step alone: written and read back. -/
namespace Go.Proofs.YthmkkbihfdcbiaaGreatDoor

open Go.RowKit Go.Deep

set_option linter.unusedVariables false

set_option linter.unusedSimpArgs false

open Go.Proofs.YthmkkbihfdcbiaaGreatDoorW.PrintWords

theorem two_drew (w : World) (o1 o2 : Obj) : w.heap.size + 1 < ((w.alloc o1).alloc o2).drew.heap.size := by
  show w.heap.size + 1 < ((w.alloc o1).alloc o2).heap.size
  simp

theorem two_drew_at (w : World) (o1 o2 : Obj) : ((w.alloc o1).alloc o2).drew.heap[w.heap.size + 1]? = some o2 :=
  show ((w.alloc o1).alloc o2).heap[w.heap.size + 1]? = some o2 from heap_alloc_at (by simp) _

theorem two_drew0 (w : World) (o1 o2 : Obj) : w.heap.size < ((w.alloc o1).alloc o2).drew.heap.size := by
  show w.heap.size < ((w.alloc o1).alloc o2).heap.size
  simp <;> omega

theorem two_drew_at0 (w : World) (o1 o2 : Obj) : ((w.alloc o1).alloc o2).drew.heap[w.heap.size]? = some o1 :=
  show ((w.alloc o1).alloc o2).heap[w.heap.size]? = some o1 from heap_alloc_old (heap_alloc_new w _) _

set_option maxRecDepth 100000 in
set_option maxHeartbeats 2000000 in
theorem alone_row (proto : Int) (plain rb sb : Bool) (ms ct fr : Int) (hf : (cfgOf plain rb sb ms ct fr).fit) (o : WOp) (ro : ROp) (F : RGot → RGot) (op a1 a2 a3 a4 a5 : Int) (A : Option Addr) (nA cA : Nat)
    (Aw : Option Addr) (cw : Nat) (At : Option Addr) (ct' : Nat) (X : List UInt8) (zs : List Int) (g : RGot) (v : Value) (w : World) (hE : EofAt w)
    (hsw : ∀ W, Below w.heap.size w W → StepWrites W o op a1 a2 a3 a4 a5 A nA cA) (hsr : StepReads ro F op a1 a2 a3 a4 a5 A nA cA) (hcost : o.cost ≤ 1000000)
    (hw : (Kd.int .u8).C w Aw (ints X).length (ints X)) (hcw : (ints X).length ≤ cw) (ht : (Kd.int .u8).C w At zs.length zs) (hct : zs.length ≤ ct') (h8 : ∀ x ∈ zs, 0 ≤ x ∧ x < 256) (hzl : zs.length ≤ 1000000) (hv : RowB g.s v w)
    (hX1 : 1 ≤ X.length) (hX : encC proto (cfgOf plain rb sb ms ct fr) [o] = (X, 0)) {g0 : RGot} {st' : CSt} (hr : rdC proto (cfgOf plain rb sb ms ct fr) (CR0, X ++ toB zs) ro = some (g0, 0, (st', toB zs))) (hF : F g0 = g) :
    Calls Tryz.prog 20 #[confV proto plain rb sb ms ct fr, .agg #[.int .i64 op, .int .i64 a1, .int .i64 a2, .int .i64 a3, .int .i64 a4, .int .i64 a5, .slice A nA cA], .slice Aw (ints X).length cw, .slice At zs.length ct', gotV g v] w fun e w' => e = .returned (.bool true) ∧ Below w.heap.size w w' := by
  have HWT := Lib.hid (fun W b (hB : Below w.heap.size w W) hb hbl => Write_any proto plain rb sb ms ct fr o op a1 a2 a3 a4 a5 A nA cA W b (hsw W hB) (by omega) hb hbl (by rw [hX]))
  rw [hX] at HWT
  have hv0 := hv
  obtain ⟨av, cv, rfl, hcv, hCv⟩ := hv0
  clear hcv hCv
  have hXl : X.length ≤ 1000000 := by
    have h1 := enc_len proto (cfgOf plain rb sb ms ct fr) [o]
    rw [hX, costs_cons, costs_nil] at h1
    dsimp only at h1
    omega
  go_enter Tryz.func20, Tryz.ntmps20
  go_wp2_with (fail)
  obtain ⟨W0, hW0⟩ : ∃ W0, W0 = (((w.alloc (.cells #[.int .i64 proto, .bool plain, .bool rb, .bool sb, .int .i32 ms, .int .i32 ct, .int .i32 fr] 25)).alloc (.cells #[.int .i64 op, .int .i64 a1, .int .i64 a2, .int .i64 a3, .int .i64 a4, .int .i64 a5, .slice A nA cA] 46)).alloc (.cells #[.int .i64 0, .int .i64 g.t, .int .i64 g.k, .int .i64 g.size, .int .i64 g.id, .int .i64 g.n, .slice av (ints g.s).length cv] 48)).alloc (.cells #[.int .i64 op, .int .i64 a1, .int .i64 a2, .int .i64 a3, .int .i64 a4, .int .i64 a5, .slice A nA cA] 46) := ⟨_, rfl⟩
  have hs0 : W0.heap.size = w.heap.size + 1 + 1 + 1 + 1 := by rw [hW0]; simp
  have HBC := Lib.hid (show Box7 w.heap.size (.int .i64 proto) (.bool plain) (.bool rb) (.bool sb) (.int .i32 ms) (.int .i32 ct) (.int .i32 fr) W0 from by rw [hW0]; exact Box7.at_ (heap_alloc_old (heap_alloc_old (heap_alloc_old (heap_alloc_new w _) _) _) _))
  have HBS := Lib.hid (show Box7 (w.heap.size + 1) (.int .i64 op) (.int .i64 a1) (.int .i64 a2) (.int .i64 a3) (.int .i64 a4) (.int .i64 a5) (.slice A nA cA) W0 from by rw [hW0]; exact Box7.at_ (heap_alloc_old (heap_alloc_old (heap_alloc_at (by simp) _) _) _))
  have HBG := Lib.hid (show Box7 (w.heap.size + 1 + 1) (.int .i64 0) (.int .i64 g.t) (.int .i64 g.k) (.int .i64 g.size) (.int .i64 g.id) (.int .i64 g.n) (.slice av (ints g.s).length cv) W0 from by rw [hW0]; exact Box7.at_ (heap_alloc_old (heap_alloc_at (by simp) _) _))
  have HBR := Lib.hid (show Box7 (w.heap.size + 1 + 1 + 1) (.int .i64 op) (.int .i64 a1) (.int .i64 a2) (.int .i64 a3) (.int .i64 a4) (.int .i64 a5) (.slice A nA cA) W0 from by rw [hW0]; exact Box7.at_ (heap_alloc_at (by simp) _))
  have HB0 := Lib.hid (show Below w.heap.size w W0 from by rw [hW0]; exact ((((Below.refl _ w).alloc (Nat.le_refl _) _).alloc (by simp) _).alloc (by simp <;> omega) _).alloc (by simp <;> omega) _)
  rw [← hW0]
  clear hW0
  refine (HWT.out W0 _ HB0.out HBR.out (by omega)).mono ?_
  rintro e W1 ⟨v1, k1, q, cq, rfl, hi1, ⟨hq1, hcq⟩, hB1⟩
  obtain ⟨ao, ca, rfl, hca, hCa⟩ := hi1.ints
  have hql := World.block_lt_of_cell? W1 _ hq1
  dsimp only at hql
  have HW1 := Lib.hid (HB0.out.trans (hB1.mono (by omega)))
  have HB1 := Lib.hid hB1
  have hs1 := hB1.size
  have HEQ := Lib.hid (equal_any hCa hca (Kd.C_below hw HW1.out) hcw)
  have HCA := Lib.hid hCa
  have HQ1 := Lib.hid hq1
  clear hi1 hB1 hq1 hCa
  go_wp2_with (fail)
  refine HEQ.out.mono ?_
  rintro e W2 ⟨rfl, hD⟩
  simp only [decide_true]
  have HB2 := Lib.hid (HB1.out.trans (hD.below.mono hs1))
  have HD := Lib.hid hD.below
  have hq2 : W2.cell? ⟨q, 0, none⟩ = some (.int .i64 0) := (hD.below.cell (p := ⟨q, 0, none⟩) hql).trans HQ1.out
  clear hD
  have hs2 := HB2.out.size
  have hlt1 : w.heap.size < W2.heap.size := by omega
  have hlt2 : w.heap.size + 1 < W2.heap.size := by omega
  obtain ⟨p0, p1, p2, p3, p4, p5, p6⟩ := HBC.out.of HB2.out (by omega)
  obtain ⟨r0, r1, r2, r3, r4, r5, r6⟩ := HBS.out.of HB2.out (by omega)
  have HJ := Lib.hid (fun W blk (hB : Below W2.heap.size W2 W) (h0 : W.cell? ⟨blk, 0, none⟩ = some (.slice ao (ints X).length ca)) (h1 : W.cell? ⟨blk, 1, none⟩ = some (.slice At zs.length ct')) => joined_any (W := W) blk 2 [ints X, zs] (by simp) (by simp) (by simp) (by simp [ints_length]; omega) (fun j p hj => by
    match j, hj with
    | 0, hj => simp only [List.getElem?_cons_zero, Option.some.injEq] at hj; subst hj; exact ⟨_, _, h0, hca, Kd.C_below (Kd.C_below HCA.out HD.out) hB⟩
    | 1, hj => simp only [List.getElem?_cons_succ, List.getElem?_cons_zero, Option.some.injEq] at hj; subst hj; exact ⟨_, _, h1, hct, Kd.C_below (Kd.C_below ht (HB0.out.trans (HB2.out.mono (by omega)))) hB⟩
    | j + 2, hj => simp at hj))
  have HPS := Lib.hid (fun W (hB : Below W2.heap.size W2 W) => show W.cell? ⟨w.heap.size, 0, none⟩ = some (.int .i64 proto) ∧ W.cell? ⟨w.heap.size, 1, none⟩ = some (.bool plain) ∧ W.cell? ⟨w.heap.size, 2, none⟩ = some (.bool rb) ∧ W.cell? ⟨w.heap.size, 3, none⟩ = some (.bool sb) ∧ W.cell? ⟨w.heap.size, 4, none⟩ = some (.int .i32 ms) ∧ W.cell? ⟨w.heap.size, 5, none⟩ = some (.int .i32 ct) ∧ W.cell? ⟨w.heap.size, 6, none⟩ = some (.int .i32 fr) ∧ W.cell? ⟨w.heap.size + 1, 0, none⟩ = some (.int .i64 op) ∧ W.cell? ⟨w.heap.size + 1, 1, none⟩ = some (.int .i64 a1) ∧ W.cell? ⟨w.heap.size + 1, 2, none⟩ = some (.int .i64 a2) ∧ W.cell? ⟨w.heap.size + 1, 3, none⟩ = some (.int .i64 a3) ∧ W.cell? ⟨w.heap.size + 1, 4, none⟩ = some (.int .i64 a4) ∧ W.cell? ⟨w.heap.size + 1, 5, none⟩ = some (.int .i64 a5) ∧ W.cell? ⟨w.heap.size + 1, 6, none⟩ = some (.slice A nA cA) from by
    have hB' := HB2.out.trans (hB.mono hs2)
    obtain ⟨p0, p1, p2, p3, p4, p5, p6⟩ := HBC.out.of hB' (by omega)
    obtain ⟨r0, r1, r2, r3, r4, r5, r6⟩ := HBS.out.of hB' (by omega)
    exact ⟨p0, p1, p2, p3, p4, p5, p6, r0, r1, r2, r3, r4, r5, r6⟩)
  obtain ⟨ys, hys⟩ : ∃ ys : List Int, [ints X, zs].flatten = ys := ⟨_, rfl⟩
  have hysB : toB ys = X ++ toB zs := by
    rw [← hys]
    have := toB_ints X
    unfold toB at this ⊢
    simp [this]
  have hys8 : ∀ x ∈ ys, 0 ≤ x ∧ x < 256 := by
    rw [← hys]
    intro x hx
    simp only [List.flatten_cons, List.flatten_nil, List.append_nil, List.mem_append] at hx
    rcases hx with hx | hx
    · obtain ⟨y, _, rfl⟩ := List.mem_map.1 hx
      have := y.toNat_lt
      omega
    · exact h8 x hx
  have hysl : 1 ≤ ys.length ∧ ys.length ≤ 2000000 := by
    rw [← hys]
    simp [ints_length]
    omega
  rw [hys] at HJ
  have HRD := Lib.hid (fun W D cd b (hEW : EofAt W) (hD : (Kd.int .u8).C W D ys.length ys) hb hbl => Read_C proto plain rb sb ms ct fr hf ro F op a1 a2 a3 a4 a5 A nA cA hsr D cd ys b W hEW hD hys8 hysl.1 (by omega) hb hbl (by rw [hysB]; exact hr))
  have HEO := Lib.hid (fun W (hB : Below W2.heap.size W2 W) => hE.below (HB0.out.trans ((HB2.out.mono (by omega)).trans (hB.mono (by omega)))) hE.lt)
  clear hys hys8 hysB hr hsr h8
  go_wp2_with (fail)
  go_region_held3 (fun W' => W'.cell? ⟨w.heap.size, 0, none⟩ = some (.int .i64 proto) ∧ W'.cell? ⟨w.heap.size, 1, none⟩ = some (.bool plain) ∧ W'.cell? ⟨w.heap.size, 2, none⟩ = some (.bool rb) ∧ W'.cell? ⟨w.heap.size, 3, none⟩ = some (.bool sb) ∧ W'.cell? ⟨w.heap.size, 4, none⟩ = some (.int .i32 ms) ∧ W'.cell? ⟨w.heap.size, 5, none⟩ = some (.int .i32 ct) ∧ W'.cell? ⟨w.heap.size, 6, none⟩ = some (.int .i32 fr) ∧ W'.cell? ⟨w.heap.size + 1, 0, none⟩ = some (.int .i64 op) ∧ W'.cell? ⟨w.heap.size + 1, 1, none⟩ = some (.int .i64 a1) ∧ W'.cell? ⟨w.heap.size + 1, 2, none⟩ = some (.int .i64 a2) ∧ W'.cell? ⟨w.heap.size + 1, 3, none⟩ = some (.int .i64 a3) ∧ W'.cell? ⟨w.heap.size + 1, 4, none⟩ = some (.int .i64 a4) ∧ W'.cell? ⟨w.heap.size + 1, 5, none⟩ = some (.int .i64 a5) ∧ W'.cell? ⟨w.heap.size + 1, 6, none⟩ = some (.slice A nA cA)) (first | exact ⟨p0, p1, p2, p3, p4, p5, p6, r0, r1, r2, r3, r4, r5, r6⟩ | (simp [go_sem, *]; done) | exact HPS.out _ HB3.out | exact HPS.out _ (HB3.out.alloc HB3.out.size _) | exact HPS.out _ (HB3.out.alloc HB3.out.size _).drew | exact HPS.out _ HB3.out.drew | exact HPS.out _ HB4.out)
    (first
      | (go_at_call 19; refine (HJ.out _ _ (by repeat (first | (with_reducible exact Below.refl _ _) | (with_reducible refine Below.drew ?_) | (with_reducible refine Below.alloc ?_ (by simp <;> omega) _))) (by simp [go_sem]) (by simp [go_sem])).mono ?_; rintro e W3 ⟨v3, rfl, hR3, hB3⟩; obtain ⟨D, cd, rfl, hcd, hCd⟩ := Kd.R_reads hR3; have HRW := Lib.hid hB3; have HB3 := Lib.hid ((show Below W2.heap.size W2 _ from (by repeat (first | (with_reducible exact Below.refl _ _) | (with_reducible refine Below.drew ?_) | (with_reducible refine Below.alloc ?_ (by simp <;> omega) _)))).trans (hB3.mono (by simp <;> omega))); have HCD := Lib.hid hCd; clear hR3 hB3 hCd)
      | (go_at_call 25; with_reducible refine (HRD.out _ D cd _ (HEO.out _ (HB3.out.alloc HB3.out.size _)) (Kd.C_below HCD.out ((Below.refl _ W3).alloc (Nat.le_refl _) _)) (Box7.at_ (heap_alloc_new _ _)) (by simp)).mono ?_; rintro e W4 ⟨q4, cap4, v4, kb4, rfl, hG4, hv4, hB4⟩; have HB4 := Lib.hid ((HB3.out.alloc HB3.out.size _).trans (hB4.mono (by have := HB3.out.size; simp <;> omega))); have HG4 := Lib.hid hG4; have HV4 := Lib.hid hv4; clear hG4 hv4 hB4)
      | (go_at_call 25; with_reducible refine (HRD.out _ D cd _ (HEO.out _ HB3.out) HCD.out ?_ ?_).mono ?_; (first | exact Box7.at_ ((HRW.out.block _ (two_drew W2 _ _)).trans (two_drew_at W2 _ _)) | exact Box7.at_ ((HRW.out.block _ (two_drew0 W2 _ _)).trans (two_drew_at0 W2 _ _))); (first | exact Nat.lt_of_lt_of_le (two_drew W2 _ _) HRW.out.size | exact Nat.lt_of_lt_of_le (two_drew0 W2 _ _) HRW.out.size); rintro e W4 ⟨q4, cap4, v4, kb4, rfl, hG4, hv4, hB4⟩; have HB4 := Lib.hid (HB3.out.trans (hB4.mono HB3.out.size)); have HG4 := Lib.hid hG4; have HV4 := Lib.hid hv4; clear hG4 hv4 hB4))
  all_goals (
    have hs4 := HB4.out.size
    obtain ⟨s0, s1, s2, s3, s4, s5, s6⟩ := HBG.out.of (HB2.out.trans (HB4.out.mono hs2)) (by omega)
    have hzl2 : (toB zs).length = zs.length := by simp [toB]
    rw [hF] at HG4 HV4
    have hq4l := World.block_lt_of_cell? W4 _ HG4.out.1
    dsimp only at hq4l
    have HSG := Lib.hid (fun W b (hB : Below W4.heap.size W4 W) (hb : GotAt b 0 g (.slice av (ints g.s).length cv) W) => sameGot_one q4 b cap4 1 g v4 (.slice av (ints g.s).length cv) W (Box7.of HG4.out hB hq4l) hb (HV4.out.rowB.below hB) (hv.below (HB0.out.trans ((HB2.out.mono (by omega)).trans ((HB4.out.mono (by omega)).trans (hB.mono (by omega)))))))
    go_wp2_with (fail)
    refine (HSG.out _ W4.heap.size ((Below.refl _ W4).alloc (Nat.le_refl _) _) (Box7.at_ (heap_alloc_new W4 _))).mono ?_
    rintro e W5 ⟨rfl, hB5⟩
    have HB5 := Lib.hid (HB4.out.trans ((((Below.refl _ W4).alloc (Nat.le_refl _) _).trans (hB5.mono (by simp))).mono hs4))
    clear hB5
    go_wp2_with (fail)
    go_ret
    exact ⟨rfl, HB0.out.trans ((HB2.out.trans (HB5.out.mono hs2)).mono (by omega))⟩)
  done

end Go.Proofs.YthmkkbihfdcbiaaGreatDoor

/-! Numbers by seven bits, the lowest byte first, the highest first: the laws' own words for them. -/
namespace Go.Proofs.YthmkkbihfdcbiaaGreatDoor

open Go.RowKit Go.Deep

set_option linter.unusedVariables false

set_option linter.unusedSimpArgs false

open Go.Proofs.YthmkkbihfdcbiaaGreatDoorW.PrintWords

theorem u8_or128 : ∀ a : Fin 256, bits .or .u8 ((a.val : Nat) : Int) 128 = ((a.val % 128 + 128 : Nat) : Int) := by decide +kernel

theorem seven_l0 : ∀ (k N : Nat) (acc : List Int), N < 128 ^ (k + 1) → acc.length + k + 1 ≤ 1000 → laws_seven.l0 (k + 1) (N : Int) acc = some (acc ++ ints (Lib.uvarint N))
  | 0, N, acc, h, hl => by
    have hN : N < 128 := by simpa using h
    rw [laws_seven.l0, if_neg (by omega), if_pos (by omega), Lib.uvarint_small hN]
    simp [ints]
  | k + 1, N, acc, h, hl => by
    by_cases hN : N < 128
    · rw [laws_seven.l0, if_neg (by omega), if_pos (by omega), Lib.uvarint_small hN]
      simp [ints]
    · have hd : N / 128 < 128 ^ (k + 1) := by
        rw [Nat.div_lt_iff_lt_mul (by omega)]
        rw [Nat.pow_succ] at h
        exact h
      have e : (N : Int) / 128 = ((N / 128 : Nat) : Int) := by omega
      have e2 : bits .or .u8 ((N : Int) % 256) 128 = ((N % 128 + 128 : Nat) : Int) := by
        have := u8_or128 ⟨N % 256, by omega⟩
        rw [show ((N : Int) % 256) = ((N % 256 : Nat) : Int) by omega, this]
        simp only [Int.ofNat_inj]
        omega
      rw [laws_seven.l0, if_pos (by omega), if_pos (by omega), e, e2, seven_l0 k (N / 128) _ hd (by simp; omega), Lib.uvarint_big (x := N) (by omega)]
      have e3 : ((N % 128 + 128).toUInt8).toNat = N % 128 + 128 := by
        simp only [Nat.toUInt8, UInt8.toNat_ofNat']
        omega
      simp [ints, e3]
      omega

theorem seven_f (N : Nat) (h : N < 18446744073709551616) : laws_seven.f 10 (N : Int) = some (ints (Lib.uvarint N)) := by
  unfold laws_seven.f
  rw [seven_l0 9 N [] (Nat.lt_of_lt_of_le h (by decide)) (by simp)]
  rfl

theorem seven_any (N : Nat) (h : N < 18446744073709551616) (w : World) : Calls Tryz.prog 18 #[.int .u64 (N : Int)] w fun e w' => ∃ v : Value, e = .returned v ∧ Kd.R (Kd.int .u8) 5 w' w.heap.size (fun _ => True) v (ints (Lib.uvarint N)) ∧ Below w.heap.size w w' :=
  laws_seven.calls 10 _ _ w (seven_f N h)

end Go.Proofs.YthmkkbihfdcbiaaGreatDoor

/-! Numbers by the compact protocol, written and read back: plain. -/
namespace Go.Proofs.YthmkkbihfdcbiaaGreatDoor

open Go.RowKit Go.Deep

set_option linter.unusedVariables false

set_option linter.unusedSimpArgs false

theorem encC_one (c : Cfg) (o : WOp) (hf : o.fit) : encC 1 c [o] = ((cmpRun CW0 o).2.1, (cmpRun CW0 o).2.2) := by
  have h : (cmpRun CW0 o).2.1.length ≤ o.cost := cmpO_len CW0 okW_0 o hf
  unfold encC
  rw [if_pos rfl]
  unfold runs
  simp only [cmpStep, cmpO, List.take_of_length_le h, List.nil_append, runs]
  split
  · next h2 => rw [h2]
  · rfl

end Go.Proofs.YthmkkbihfdcbiaaGreatDoor

/-! Begins of lists, sets and maps by the compact protocol, written and read back: plain. -/
namespace Go.Proofs.YthmkkbihfdcbiaaGreatDoor

open Go.RowKit Go.Deep

set_option linter.unusedVariables false

set_option linter.unusedSimpArgs false

open Go.Proofs.YthmkkbihfdcbiaaGreatDoorW.PrintWords

theorem wide_of {proto : Int} {plain rb sb : Bool} {ms ct fr : Int} (h : laws_isWide.f proto plain rb sb ms ct fr = some true) : 1048576 ≤ (cfgOf plain rb sb ms ct fr).message ∧ 65536 ≤ (cfgOf plain rb sb ms ct fr).container := by
  unfold laws_isWide.f at h
  unfold Cfg.message Cfg.container orElse cfgOf
  cases plain
  · simp only [Bool.false_eq_true, if_false] at h ⊢
    by_cases h1 : ms ≤ 0
    · rw [if_pos h1] at h ⊢
      by_cases h2 : ct ≤ 0
      · rw [if_pos h2]; omega
      · rw [if_neg h2] at h ⊢
        by_cases h3 : ct > 65536
        · omega
        · rw [if_neg h3] at h; simp at h
    · rw [if_neg h1] at h ⊢
      by_cases h4 : ms > 1048576
      · rw [if_pos h4] at h
        by_cases h2 : ct ≤ 0
        · rw [if_pos h2]; omega
        · rw [if_neg h2] at h ⊢
          by_cases h3 : ct > 65536
          · omega
          · rw [if_neg h3] at h; simp at h
      · rw [if_neg h4] at h; simp at h
  · simp

theorem isWide_f (proto : Int) (plain rb sb : Bool) (ms ct fr : Int) : ∃ b, laws_isWide.f proto plain rb sb ms ct fr = some b := by
  unfold laws_isWide.f
  (repeat' split) <;> exact ⟨_, rfl⟩

end Go.Proofs.YthmkkbihfdcbiaaGreatDoor

/-! Texts and begins of messages by the compact protocol, written and read back: plain. -/
namespace Go.Proofs.YthmkkbihfdcbiaaGreatDoor

open Go.RowKit Go.Deep

set_option linter.unusedVariables false

set_option linter.unusedSimpArgs false

theorem v64_nat (n : Nat) (h : n ≤ 2147483647) (R : List UInt8) : v64 (Lib.uvarint n ++ R) = some ((n : Int), R) := by
  have hv := v64_uvarint n R (by omega)
  rw [show wrap64 ((n : Nat) : Int) = n from by unfold wrap64; omega] at hv
  exact hv

theorem sizeK_text (c : Cfg) (n : Nat) (hm : 1048576 ≤ c.message) (hl : n ≤ 1048576) : sizeK c (n : Int) = 0 := by
  unfold sizeK
  rw [if_neg (by omega), if_neg (by omega)]

theorem rdStr_any (c : Cfg) (hm : 1048576 ≤ c.message) (s : List UInt8) (hl : s.length ≤ 1048576) (R : List UInt8) : cRdStr c (cText s ++ R) = some (s, 0, R) := by
  have hw : wrap32 (s.length : Int) = s.length := by unfold wrap32; omega
  unfold cRdStr cText
  rw [List.append_assoc, v64_nat _ (by omega), Option.bind_some]
  dsimp only
  rw [hw, if_pos (sizeK_text c _ hm hl), Int.toNat_natCast]
  unfold takeN
  rw [if_pos (by simp), Option.map_some, List.take_left' rfl, List.drop_left' rfl]

end Go.Proofs.YthmkkbihfdcbiaaGreatDoor

/-! Texts, binaries and uuids by the compact protocol, written and read back, one step alone. -/
namespace Go.Proofs.YthmkkbihfdcbiaaGreatDoor

open Go.RowKit Go.Deep

set_option linter.unusedVariables false

set_option linter.unusedSimpArgs false

open Go.Proofs.YthmkkbihfdcbiaaGreatDoorW.PrintWords

/-- The first i ones of a list, and zeros. -/
def padTo (xs : List Int) (i : Nat) : List Int := (xs.take i ++ List.replicate 16 0).take 16

theorem padTo_length (xs : List Int) (i : Nat) : (padTo xs i).length = 16 := by
  unfold padTo
  rw [List.length_take, List.length_append, List.length_replicate]
  omega

theorem padTo_succ (xs : List Int) (i : Nat) (h : i < 16) (hx : i < xs.length) : (padTo xs i).set i xs[i] = padTo xs (i + 1) := by
  apply List.ext_getElem?
  intro j
  rw [List.getElem?_set, padTo_length]
  unfold padTo
  rw [List.getElem?_take, List.getElem?_take, List.getElem?_append, List.getElem?_append, List.length_take, List.length_take]
  rw [Nat.min_eq_left (by omega), Nat.min_eq_left (by omega)]
  by_cases hj : j < 16
  · rw [if_pos hj, if_pos hj]
    by_cases hij : i = j
    · subst hij
      rw [if_pos rfl, if_pos h, if_pos (by omega), List.getElem?_take, if_pos (by omega), List.getElem?_eq_getElem hx]
    · rw [if_neg hij]
      by_cases h2 : j < i
      · rw [if_pos h2, if_pos (by omega), List.getElem?_take, List.getElem?_take, if_pos h2, if_pos (by omega)]
      · rw [if_neg h2, if_neg (by omega), List.getElem?_replicate, List.getElem?_replicate, if_pos (by omega), if_pos (by omega)]
  · rw [if_neg hj, if_neg hj, if_neg (by omega)]

theorem padTo_end (xs : List Int) (i : Nat) (h : i = 16 ∨ i = xs.length) (hi : i ≤ 16) : padTo xs i = padTo xs 16 := by
  rcases h with rfl | rfl
  · rfl
  · unfold padTo
    rw [List.take_of_length_le (Nat.le_refl _), List.take_of_length_le hi]

theorem padded_l0 (xs : List Int) (hl : xs.length < 9223372036854775807) : ∀ (k i : Nat), i + k = 16 → i ≤ xs.length → laws_padded.l0 (k + 1) xs (padTo xs i) (i : Int) = some (padTo xs 16)
  | 0, i, h, hx => by
    obtain rfl : i = 16 := by omega
    rw [laws_padded.l0, if_neg (by omega)]
  | k + 1, i, h, hx => by
    rw [laws_padded.l0, if_pos (by omega)]
    by_cases h2 : i < xs.length
    · have e1 : rd xs (i : Int) = xs[i] := by simp [rd, List.getD_eq_getElem?_getD, List.getElem?_eq_getElem h2]
      have e2 : wrap64 ((i : Int) + 1) = ((i + 1 : Nat) : Int) := by unfold wrap64; omega
      rw [if_pos (by omega), if_pos (by omega), padTo_length, if_pos (by omega), e1, e2, Int.toNat_natCast, padTo_succ xs i (by omega) h2]
      exact padded_l0 xs hl k (i + 1) (by omega) (by omega)
    · rw [if_neg (by omega), padTo_end xs i (.inr (by omega)) (by omega)]

theorem padTo_u16 (xs : List Int) (h8 : ∀ x ∈ xs, 0 ≤ x ∧ x < 256) : padTo xs 16 = ints (u16 (toB xs)) := by
  have e : ints (u16 (toB xs)) = ((ints (toB xs)) ++ List.replicate 16 0).take 16 := by
    unfold u16 ints
    rw [List.map_take, List.map_append, List.map_replicate]
    rfl
  rw [e, ints_toB h8]
  unfold padTo
  rw [List.take_append, List.take_append, List.take_take, List.length_take]
  simp only [List.take_replicate, Nat.min_self]
  congr 2
  omega

theorem padded_f (xs : List Int) (h8 : ∀ x ∈ xs, 0 ≤ x ∧ x < 256) (hl : xs.length < 9223372036854775807) : laws_padded.f 17 xs = some (ints (u16 (toB xs))) := by
  have h := padded_l0 xs hl 16 0 (by omega) (by omega)
  unfold laws_padded.f
  rw [if_pos (by omega), ← padTo_u16 xs h8, ← h]
  rfl

theorem enc_text (c : Cfg) (s : List UInt8) (hl : s.length ≤ 65536) : encC 1 c [.str s] = (cText s, 0) ∧ encC 1 c [.bin s] = (cText s, 0) :=
  ⟨encC_one c (.str s) (by show s.length ≤ _; omega), encC_one c (.bin s) (by show s.length ≤ _; omega)⟩

theorem enc_uuid (c : Cfg) (s : List UInt8) : encC 1 c [.uuid (u16 s)] = (u16 s, 0) := encC_one c (.uuid (u16 s)) (u16_length s)

theorem rd_text (c : Cfg) (hm : 1048576 ≤ c.message) (s : List UInt8) (hl : s.length ≤ 65536) (R : List UInt8) : rdC 1 c (CR0, cText s ++ R) .str = some ({ s := s }, 0, (CR0, R)) := by
  unfold rdC
  rw [if_pos rfl]
  show (cRdStr c (cText s ++ R)).map (fun b => (({ s := b.1 } : RGot), b.2.1, (CR0, b.2.2))) = _
  rw [rdStr_any c hm s (by omega)]
  rfl

theorem rd_uuid (c : Cfg) (s R : List UInt8) : rdC 1 c (CR0, u16 s ++ R) .uuid = some ({ s := u16 s }, 0, (CR0, R)) := by
  unfold rdC
  rw [if_pos rfl]
  show (takeN 16 (u16 s ++ R)).map (fun a => (({ s := a.1 } : RGot), 0, (CR0, a.2))) = _
  unfold takeN
  rw [if_pos (by rw [List.length_append, u16_length]; omega), Option.map_some, List.take_left' (u16_length s), List.drop_left' (u16_length s)]

theorem cText_pos (s : List UInt8) : 1 ≤ (cText s).length := by
  unfold cText
  have := Lib.uvarint_pos s.length
  rw [List.length_append]
  omega

end Go.Proofs.YthmkkbihfdcbiaaGreatDoor

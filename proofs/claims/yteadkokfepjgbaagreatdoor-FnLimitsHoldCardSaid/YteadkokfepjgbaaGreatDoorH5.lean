/- The walk of the law FnLimitsHold. -/
import Derived.Test.YteadkokfepjgbaaGreatDoorG7
import Derived.Test.YteadkokfepjgbaaGreatDoorK1
namespace Go.Proofs.YteadkokfepjgbaaGreatDoor
open Go.RowKit Go.Deep
set_option linter.unusedVariables false
set_option linter.unusedSimpArgs false

theorem range32 {n : Int} (h : (Lit.int .i32 n).wf = true) : -2147483648 ≤ n ∧ n < 2147483648 := by
  have h' : IntKind.i32.min ≤ n ∧ n ≤ IntKind.i32.max := by simpa [Lit.wf] using h
  have e : IntKind.i32.min = -2147483648 := by decide
  have e' : IntKind.i32.max = 2147483647 := by decide
  omega

set_option maxRecDepth 100000 in
set_option maxHeartbeats 4000000 in
theorem fnLimitsHold_walk (proto : Int) (plain rb sb : Bool) (ms ct fr : Int) (w : World) (hf : (Lit.int .i64 proto).wf = true ∧ (Lit.int .i32 ms).wf = true ∧ (Lit.int .i32 ct).wf = true ∧ (Lit.int .i32 fr).wf = true) :
    Calls Tryz.prog 9 #[confV proto plain rb sb ms ct fr] w fun e w' => e = .returned (.bool true) ∧ Below w.heap.size w w' := by
  have hk := Lib.hid known_any
  have hP := Lib.hid limits_plain
  have hG := Lib.hid limits_given
  cases plain
  · obtain ⟨m, hm⟩ : ∃ m, orElse ms 104857600 = m := ⟨_, rfl⟩
    obtain ⟨f, hfr⟩ : ∃ f, min (orElse fr 16384000) m = f := ⟨_, rfl⟩
    obtain ⟨c, hc⟩ : ∃ c, orElse ct 2147483647 = c := ⟨_, rfl⟩
    go_enter Tryz.func9, Tryz.ntmps9
    go_wp2_with (fail)
    refine (hG.out proto rb sb ms ct fr _).mono ?_
    rintro e W1 ⟨rfl, hB1⟩
    rw [hm, hfr, hc]
    have q0 : W1.cell? ⟨w.heap.size, 0, none⟩ = some (.int .i64 proto) := (World.cell?_of_block (hB1.block _ (by simp))).trans (by simp)
    have q1 : W1.cell? ⟨w.heap.size, 1, none⟩ = some (.bool false) := (World.cell?_of_block (hB1.block _ (by simp))).trans (by simp)
    have q2 : W1.cell? ⟨w.heap.size, 2, none⟩ = some (.bool rb) := (World.cell?_of_block (hB1.block _ (by simp))).trans (by simp)
    have q3 : W1.cell? ⟨w.heap.size, 3, none⟩ = some (.bool sb) := (World.cell?_of_block (hB1.block _ (by simp))).trans (by simp)
    have q4 : W1.cell? ⟨w.heap.size, 4, none⟩ = some (.int .i32 ms) := (World.cell?_of_block (hB1.block _ (by simp))).trans (by simp)
    have q5 : W1.cell? ⟨w.heap.size, 5, none⟩ = some (.int .i32 ct) := (World.cell?_of_block (hB1.block _ (by simp))).trans (by simp)
    have q6 : W1.cell? ⟨w.heap.size, 6, none⟩ = some (.int .i32 fr) := (World.cell?_of_block (hB1.block _ (by simp))).trans (by simp)
    have hm1 : (ms ≤ 0 ∧ m = 104857600) ∨ (0 < ms ∧ m = ms) := by unfold orElse at hm; split at hm <;> omega
    have hc1 : (ct ≤ 0 ∧ c = 2147483647) ∨ (0 < ct ∧ c = ct) := by unfold orElse at hc; split at hc <;> omega
    have hf1 : (fr ≤ 0 ∧ f = min 16384000 m) ∨ (0 < fr ∧ f = min fr m) := by unfold orElse at hfr; split at hfr <;> omega
    clear hm hfr hc
    have hb0 : Below w.heap.size w W1 := ((Below.refl w.heap.size w).alloc (Nat.le_refl _) _).trans (hB1.mono (by simp))
    go_wp2_with (go_at_call 14; refine (hk.out _).mono ?_; rintro e w' ⟨rfl, hb⟩)
    all_goals go_ret
    all_goals exact ⟨rfl, hb0.trans (hb.mono hb0.size)⟩
  · go_enter Tryz.func9, Tryz.ntmps9
    go_wp2_with (fail)
    refine (hP.out proto rb sb ms ct fr _).mono ?_
    rintro e W1 ⟨rfl, hB1⟩
    have q0 : W1.cell? ⟨w.heap.size, 0, none⟩ = some (.int .i64 proto) := (World.cell?_of_block (hB1.block _ (by simp))).trans (by simp)
    have q1 : W1.cell? ⟨w.heap.size, 1, none⟩ = some (.bool true) := (World.cell?_of_block (hB1.block _ (by simp))).trans (by simp)
    have q2 : W1.cell? ⟨w.heap.size, 2, none⟩ = some (.bool rb) := (World.cell?_of_block (hB1.block _ (by simp))).trans (by simp)
    have q3 : W1.cell? ⟨w.heap.size, 3, none⟩ = some (.bool sb) := (World.cell?_of_block (hB1.block _ (by simp))).trans (by simp)
    have q4 : W1.cell? ⟨w.heap.size, 4, none⟩ = some (.int .i32 ms) := (World.cell?_of_block (hB1.block _ (by simp))).trans (by simp)
    have q5 : W1.cell? ⟨w.heap.size, 5, none⟩ = some (.int .i32 ct) := (World.cell?_of_block (hB1.block _ (by simp))).trans (by simp)
    have q6 : W1.cell? ⟨w.heap.size, 6, none⟩ = some (.int .i32 fr) := (World.cell?_of_block (hB1.block _ (by simp))).trans (by simp)
    have hb0 : Below w.heap.size w W1 := ((Below.refl w.heap.size w).alloc (Nat.le_refl _) _).trans (hB1.mono (by simp))
    go_wp2_with (go_at_call 14; refine (hk.out _).mono ?_; rintro e w' ⟨rfl, hb⟩)
    go_ret
    exact ⟨rfl, hb0.trans (hb.mono hb0.size)⟩

end Go.Proofs.YteadkokfepjgbaaGreatDoor

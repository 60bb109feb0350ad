/- The walk of the law FnPrealloc: it returns true and turns nothing that was there. -/
import Derived.Test.YteadkokfepjgbaaGreatDoorG7
namespace Go.Proofs.YteadkokfepjgbaaGreatDoor
open Go.RowKit Go.Deep
set_option linter.unusedVariables false
set_option linter.unusedSimpArgs false

theorem prealloc_any (n : Int) (w : World) : Calls Tryz.prog 16 #[.int .i64 n] w fun e w' => e = .returned (.int .i64 (max 0 (min n 1024))) ∧ w = w' := by
  by_cases h : n < 0
  · have h1 : max 0 (min n 1024) = 0 := by omega
    rw [h1]
    go_enter Tryz.func16, Tryz.ntmps16
    go_wp2
    go_ret
    exact ⟨rfl, rfl⟩
  · have h1 : max 0 (min n 1024) = min n 1024 := by omega
    rw [h1]
    go_enter Tryz.func16, Tryz.ntmps16
    go_wp2
    go_ret
    exact ⟨rfl, rfl⟩

theorem fnPrealloc_walk (n m : Int) (w : World) (h0 : (Lit.int .i64 n).wf = true) (h1 : (Lit.int .i64 m).wf = true) :
    Calls Tryz.prog 5 #[.int .i64 n, .int .i64 m] w fun e w' => e = .returned (.bool true) ∧ Below w.heap.size w w' := by
  have hk := Lib.hid known_any
  have hp := Lib.hid prealloc_any
  go_enter Tryz.func5, Tryz.ntmps5
  go_wp2_with (first | (go_at_call 16; refine (hp.out _ _).mono ?_; rintro e w' ⟨rfl, rfl⟩) | (go_at_call 14; refine (hk.out _).mono ?_; rintro e w' ⟨rfl, hb⟩))
  all_goals (go_ret; exact ⟨by first | rfl | (simp; omega), hb⟩)

end Go.Proofs.YteadkokfepjgbaaGreatDoor

/- The limits that a configuration gives. -/
import Derived.Test.YteadkokfepjgbaaGreatDoorProg
import Derived.Test.YteadkokfepjgbaaGreatDoorB0
import Derived.Deep.RegionWith
import Derived.Deep.RegionHeld3
import Derived.Deep.QuietTactic
namespace Go.Proofs.YteadkokfepjgbaaGreatDoor
open Go.RowKit
set_option linter.unusedVariables false
set_option linter.unusedSimpArgs false

/-- A number of a configuration, or what holds where it is not over nothing. -/
def orElse (x d : Int) : Int := if x ≤ 0 then d else x

/-- Block k is a configuration. -/
def IsConf (k : Nat) (ms fr ct : Int) (r s : Nat) (rb sb : Bool) (w : World) : Prop :=
  w.cell? ⟨k, 0, none⟩ = some (.int .i32 ms) ∧ w.cell? ⟨k, 1, none⟩ = some (.int .i32 fr) ∧ w.cell? ⟨k, 2, none⟩ = some (.int .i32 ct) ∧ w.cell? ⟨k, 3, none⟩ = some (.pointer (some ⟨r, 0, none⟩)) ∧ w.cell? ⟨k, 4, none⟩ = some (.pointer (some ⟨s, 0, none⟩)) ∧
    w.cell? ⟨r, 0, none⟩ = some (.bool rb) ∧ w.cell? ⟨s, 0, none⟩ = some (.bool sb)

theorem maxMessage_nil (w : World) : Calls Tryz.prog 49 #[.pointer none] w fun e w' => e = .returned (.int .i32 104857600) ∧ w = w' := by
  go_enter Tryz.func49, Tryz.ntmps49
  go_wp2
  go_ret
  exact ⟨rfl, rfl⟩

theorem maxMessage_at (k : Nat) (ms fr ct : Int) (r s : Nat) (rb sb : Bool) (w : World) (h : IsConf k ms fr ct r s rb sb w) : Calls Tryz.prog 49 #[.pointer (some ⟨k, 0, none⟩)] w fun e w' => e = .returned (.int .i32 (orElse ms 104857600)) ∧ w = w' := by
  obtain ⟨c0, c1, c2, c3, c4, cr, cs⟩ := h
  by_cases hm : ms ≤ 0
  · have he : orElse ms 104857600 = 104857600 := if_pos hm
    rw [he]
    go_enter Tryz.func49, Tryz.ntmps49
    go_wp2
    go_ret
    exact ⟨rfl, rfl⟩
  · have he : orElse ms 104857600 = ms := if_neg hm
    rw [he]
    go_enter Tryz.func49, Tryz.ntmps49
    go_wp2
    go_ret
    exact ⟨rfl, rfl⟩

theorem maxContainer_nil (w : World) : Calls Tryz.prog 51 #[.pointer none] w fun e w' => e = .returned (.int .i32 2147483647) ∧ w = w' := by
  go_enter Tryz.func51, Tryz.ntmps51
  go_wp2
  go_ret
  exact ⟨rfl, rfl⟩

theorem maxContainer_at (k : Nat) (ms fr ct : Int) (r s : Nat) (rb sb : Bool) (w : World) (h : IsConf k ms fr ct r s rb sb w) : Calls Tryz.prog 51 #[.pointer (some ⟨k, 0, none⟩)] w fun e w' => e = .returned (.int .i32 (orElse ct 2147483647)) ∧ w = w' := by
  obtain ⟨c0, c1, c2, c3, c4, cr, cs⟩ := h
  by_cases hm : ct ≤ 0
  · have he : orElse ct 2147483647 = 2147483647 := if_pos hm
    rw [he]
    go_enter Tryz.func51, Tryz.ntmps51
    go_wp2
    go_ret
    exact ⟨rfl, rfl⟩
  · have he : orElse ct 2147483647 = ct := if_neg hm
    rw [he]
    go_enter Tryz.func51, Tryz.ntmps51
    go_wp2
    go_ret
    exact ⟨rfl, rfl⟩

theorem strictRead_nil (w : World) : Calls Tryz.prog 52 #[.pointer none] w fun e w' => e = .returned (.bool false) ∧ w = w' := by
  go_enter Tryz.func52, Tryz.ntmps52
  go_wp2
  go_ret
  exact ⟨rfl, rfl⟩

theorem strictRead_at (k : Nat) (ms fr ct : Int) (r s : Nat) (rb sb : Bool) (w : World) (h : IsConf k ms fr ct r s rb sb w) : Calls Tryz.prog 52 #[.pointer (some ⟨k, 0, none⟩)] w fun e w' => e = .returned (.bool rb) ∧ w = w' := by
  obtain ⟨c0, c1, c2, c3, c4, cr, cs⟩ := h
  go_enter Tryz.func52, Tryz.ntmps52
  go_wp2
  go_ret
  exact ⟨rfl, rfl⟩

theorem strictWrite_nil (w : World) : Calls Tryz.prog 53 #[.pointer none] w fun e w' => e = .returned (.bool true) ∧ w = w' := by
  go_enter Tryz.func53, Tryz.ntmps53
  go_wp2
  go_ret
  exact ⟨rfl, rfl⟩

theorem strictWrite_at (k : Nat) (ms fr ct : Int) (r s : Nat) (rb sb : Bool) (w : World) (h : IsConf k ms fr ct r s rb sb w) : Calls Tryz.prog 53 #[.pointer (some ⟨k, 0, none⟩)] w fun e w' => e = .returned (.bool sb) ∧ w = w' := by
  obtain ⟨c0, c1, c2, c3, c4, cr, cs⟩ := h
  go_enter Tryz.func53, Tryz.ntmps53
  go_wp2
  go_ret
  exact ⟨rfl, rfl⟩

theorem maxFrame_nil (w : World) : Calls Tryz.prog 50 #[.pointer none] w fun e w' => e = .returned (.int .i32 16384000) ∧ w = w' := by
  go_enter Tryz.func50, Tryz.ntmps50
  go_wp2
  go_ret
  exact ⟨rfl, rfl⟩

theorem maxFrame_at (k : Nat) (ms fr ct : Int) (r s : Nat) (rb sb : Bool) (w : World) (h : IsConf k ms fr ct r s rb sb w) : Calls Tryz.prog 50 #[.pointer (some ⟨k, 0, none⟩)] w fun e w' => e = .returned (.int .i32 (min (orElse fr 16384000) (orElse ms 104857600))) ∧ w = w' := by
  have HM := Lib.hid (maxMessage_at k ms fr ct r s rb sb w h)
  obtain ⟨c0, c1, c2, c3, c4, cr, cs⟩ := h
  by_cases hm : fr ≤ 0
  · have he : orElse fr 16384000 = 16384000 := if_pos hm
    rw [he]
    by_cases hl : orElse ms 104857600 < 16384000
    · have he2 : min 16384000 (orElse ms 104857600) = orElse ms 104857600 := by omega
      rw [he2]
      go_enter Tryz.func50, Tryz.ntmps50
      go_wp2_with (go_at_call 49; refine HM.out.mono ?_; rintro e w' ⟨rfl, rfl⟩)
      go_ret
      exact ⟨rfl, rfl⟩
    · have he2 : min 16384000 (orElse ms 104857600) = 16384000 := by omega
      rw [he2]
      go_enter Tryz.func50, Tryz.ntmps50
      go_wp2_with (go_at_call 49; refine HM.out.mono ?_; rintro e w' ⟨rfl, rfl⟩)
      go_ret
      exact ⟨rfl, rfl⟩
  · have he : orElse fr 16384000 = fr := if_neg hm
    rw [he]
    by_cases hl : orElse ms 104857600 < fr
    · have he2 : min fr (orElse ms 104857600) = orElse ms 104857600 := by omega
      rw [he2]
      go_enter Tryz.func50, Tryz.ntmps50
      go_wp2_with (go_at_call 49; refine HM.out.mono ?_; rintro e w' ⟨rfl, rfl⟩)
      go_ret
      exact ⟨rfl, rfl⟩
    · have he2 : min fr (orElse ms 104857600) = fr := by omega
      rw [he2]
      go_enter Tryz.func50, Tryz.ntmps50
      go_wp2_with (go_at_call 49; refine HM.out.mono ?_; rintro e w' ⟨rfl, rfl⟩)
      go_ret
      exact ⟨rfl, rfl⟩

/-- A configuration as the thin package takes it. -/
abbrev confV (proto : Int) (plain rb sb : Bool) (ms ct fr : Int) : Value := .agg #[.int .i64 proto, .bool plain, .bool rb, .bool sb, .int .i32 ms, .int .i32 ct, .int .i32 fr]

theorem limits_plain (proto : Int) (rb sb : Bool) (ms ct fr : Int) (w : World) : Calls Tryz.prog 24 #[confV proto true rb sb ms ct fr] w fun e w' => e = .returned (.tuple #[.int .i32 104857600, .int .i32 16384000, .int .i32 2147483647, .bool false, .bool true]) ∧ Below w.heap.size w w' := by
  go_enter Tryz.func24, Tryz.ntmps24
  go_wp2
  refine bodyPost_ret (v := .tuple #[.int .i32 104857600, .int .i32 16384000, .int .i32 2147483647, .bool false, .bool true]) (by simp [results, Tryz.results24, go_sem]) rfl ⟨rfl, ?_⟩
  (repeat (first | (with_reducible exact Below.refl _ _) | (with_reducible refine Below.drew ?_) | (with_reducible refine Below.setCell ?_ (by simp <;> omega) _) | (with_reducible refine Below.alloc ?_ (by simp <;> omega) _)))

theorem config_given (proto : Int) (rb sb : Bool) (ms ct fr : Int) (w : World) : Calls Tryz.prog 48 #[confV proto false rb sb ms ct fr] w fun e w' => ∃ k r s, e = .returned (.pointer (some ⟨k, 0, none⟩)) ∧ IsConf k ms fr ct r s rb sb w' ∧ Below w.heap.size w w' := by
  go_enter Tryz.func48, Tryz.ntmps48
  go_wp2
  go_region
  all_goals go_wp2
  all_goals go_ret
  all_goals (first
    | (refine ⟨_, w.heap.size + 1, w.heap.size + 1 + 1, rfl, ⟨?_, ?_, ?_, ?_, ?_, ?_, ?_⟩, ?_⟩
       iterate 7 (rotate_left; skip)
       (repeat (first | (with_reducible exact Below.refl _ _) | (with_reducible refine Below.drew ?_) | (with_reducible refine Below.setCell ?_ (by simp <;> omega) _) | (with_reducible refine Below.alloc ?_ (by simp <;> omega) _)))
       all_goals (simp [go_sem]; done))
    | (refine ⟨_, w.heap.size + 1 + 1, w.heap.size + 1, rfl, ⟨?_, ?_, ?_, ?_, ?_, ?_, ?_⟩, ?_⟩
       iterate 7 (rotate_left; skip)
       (repeat (first | (with_reducible exact Below.refl _ _) | (with_reducible refine Below.drew ?_) | (with_reducible refine Below.setCell ?_ (by simp <;> omega) _) | (with_reducible refine Below.alloc ?_ (by simp <;> omega) _)))
       all_goals (simp [go_sem]; done)))

theorem limits_given (proto : Int) (rb sb : Bool) (ms ct fr : Int) (w : World) : Calls Tryz.prog 24 #[confV proto false rb sb ms ct fr] w fun e w' => e = .returned (.tuple #[.int .i32 (orElse ms 104857600), .int .i32 (min (orElse fr 16384000) (orElse ms 104857600)), .int .i32 (orElse ct 2147483647), .bool rb, .bool sb]) ∧ Below w.heap.size w w' := by
  have HG := Lib.hid config_given
  go_enter Tryz.func24, Tryz.ntmps24
  go_wp2_with (fail)
  refine (HG.out proto rb sb ms ct fr _).mono ?_
  rintro e W1 ⟨k, r, s, rfl, hC, hB⟩
  have HC := Lib.hid hC
  clear hC
  go_wp2_with (first | (go_at_call 49; refine (maxMessage_at k ms fr ct r s rb sb _ HC.out).mono ?_; rintro e w' ⟨rfl, rfl⟩) | (go_at_call 50; refine (maxFrame_at k ms fr ct r s rb sb _ HC.out).mono ?_; rintro e w' ⟨rfl, rfl⟩) | (go_at_call 51; refine (maxContainer_at k ms fr ct r s rb sb _ HC.out).mono ?_; rintro e w' ⟨rfl, rfl⟩) | (go_at_call 52; refine (strictRead_at k ms fr ct r s rb sb _ HC.out).mono ?_; rintro e w' ⟨rfl, rfl⟩) | (go_at_call 53; refine (strictWrite_at k ms fr ct r s rb sb _ HC.out).mono ?_; rintro e w' ⟨rfl, rfl⟩))
  refine bodyPost_ret (v := .tuple #[.int .i32 (orElse ms 104857600), .int .i32 (min (orElse fr 16384000) (orElse ms 104857600)), .int .i32 (orElse ct 2147483647), .bool rb, .bool sb]) (by simp [results, Tryz.results24, go_sem]) rfl ⟨rfl, ?_⟩
  exact ((Below.refl w.heap.size w).alloc (Nat.le_refl _) _).trans (hB.mono (by simp))

end Go.Proofs.YteadkokfepjgbaaGreatDoor

/- Two rows of the same bytes are told equal. -/
import Derived.Test.YteadkokfepjgbaaGreatDoorG5
namespace Go.Proofs.YteadkokfepjgbaaGreatDoor
open Go.RowKit Go.Deep
set_option linter.unusedVariables false
set_option linter.unusedSimpArgs false

theorem IsB.form {cs : List Value} {v : Value} {k : Nat} {w : World} (h : IsB cs v k w) : ∃ ao c, v = .slice ao cs.length c ∧ (cs ≠ [] → ∃ o, ao = some ⟨k, o, none⟩ ∧ ∀ j x, cs[j]? = some x → w.cell? ⟨k, o + j, none⟩ = some x) := by
  obtain ⟨c, ⟨rfl, rfl⟩ | ⟨o, rfl, _, _, _, h5⟩⟩ := h
  · exact ⟨none, 0, rfl, fun hh => absurd rfl hh⟩
  · exact ⟨_, _, rfl, fun _ => ⟨o, rfl, h5⟩⟩

set_option maxHeartbeats 2000000 in
theorem equal_same (ka kb : Nat) (va vb : Value) (l : List UInt8) (w : World) (ha : IsB (Lib.byteCells l) va ka w) (hb : IsB (Lib.byteCells l) vb kb w) (hl : l.length < 2147483648) :
    Calls Tryz.prog 17 #[va, vb] w fun e w' => e = .returned (.bool true) ∧ ∃ n, w' = w.drewN n := by
  obtain ⟨ao, ca, rfl, h1⟩ := ha.form
  obtain ⟨bo, cb, rfl, h2⟩ := hb.form
  rw [Lib.byteCells_length]
  rcases Classical.em (l = []) with rfl | hne
  · go_enter Tryz.func17, Tryz.ntmps17
    go_wp2
    refine wp_loop_rounds 1 ?_
    rw [rounds_succ]
    go_wp2
    go_ret
    exact ⟨rfl, 0, rfl⟩
  · have hcn : Lib.byteCells l ≠ [] := by cases l with | nil => exact absurd rfl hne | cons x l => simp [Lib.byteCells]
    obtain ⟨oa, rfl, k1⟩ := h1 hcn
    obtain ⟨ob, rfl, k2⟩ := h2 hcn
    go_enter Tryz.func17, Tryz.ntmps17
    go_wp2
    go_loopw [5] (fun i wr => ∃ k : Nat, i = .int .i64 k ∧ k ≤ l.length ∧ ∃ n, wr = w.drewN n) (fun i _ => l.length - (intOf i).toNat)
    case atStart => exact ⟨0, rfl, Nat.zero_le _, 0, rfl⟩
    case round =>
      obtain ⟨k, rfl, hk, n, rfl⟩ := hrel
      by_cases hkl : k < l.length
      · have x1 : w.cell? ⟨ka, oa + k, none⟩ = some (.int .u8 (l[k].toNat : Nat)) := k1 k _ (by simp [Lib.byteCells, hkl])
        have x2 : w.cell? ⟨kb, ob + k, none⟩ = some (.int .u8 (l[k].toNat : Nat)) := k2 k _ (by simp [Lib.byteCells, hkl])
        go_wp2
        go_quiet (fail)
        go_wp2
        exact ⟨⟨k + 1, by simp, hkl, _, rfl⟩, by simp [intOf]; omega⟩
      · go_wp2
        go_ret
        exact ⟨rfl, n, rfl⟩

end Go.Proofs.YteadkokfepjgbaaGreatDoor

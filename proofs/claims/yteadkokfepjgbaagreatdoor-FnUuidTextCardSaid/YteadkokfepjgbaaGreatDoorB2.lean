/- A bytes.Buffer grows: over a row that is too small. -/
import Derived.Test.YteadkokfepjgbaaGreatDoorB1
namespace Go.Proofs.YteadkokfepjgbaaGreatDoor
open Go.RowKit Go.Deep
set_option linter.unusedVariables false
set_option linter.unusedSimpArgs false

set_option maxHeartbeats 2000000 in
set_option maxRecDepth 100000 in
theorem grow_row_pos (b g l cap n : Nat) (lr : Int) (cur : Array Value) (w : World) (hbk : w.heap[b]? = some (.cells #[.slice (some ⟨g, 0, none⟩) l cap, .int .i64 0, .int .i8 lr] 151 (0, 0)))
    (hg : w.heap[g]? = some (.cells cur 5 (0, 0))) (hlc : l ≤ cap) (hcm : cap ≤ maxLen) (hcs : cur.size = cap) (h1 : ∀ v ∈ cur.toList.take l, v.oneCell' = true) (hn : 1 ≤ n) (hroom : cap - l < n) (hlim : l + n ≤ 140737488355328) (hl0 : ((l : Int) == 0) = false) :
    Calls Tryz.prog 94 #[.pointer (some ⟨b, 0, none⟩), .int .i64 n] w fun e w' => e = .returned (.int .i64 l) ∧ Grew b l n lr (cur.toList.take l) w w' := by
  have hnil : ∀ W, (binOp .eql 29 (.slice (some ⟨g, 0, none⟩) l cap) (.slice none 0 0)).run Tryz.prog W = .ok (.bool false) W := fun W => Lib.run_eql_slice_some_nil W _ _ _ Tryz.underlying29
  have c0 : w.cell? ⟨b, 0, none⟩ = some (.slice (some ⟨g, 0, none⟩) l cap) := by rw [cell_heap hbk]; rfl
  have c1 : w.cell? ⟨b, 1, none⟩ = some (.int .i64 (0 : Nat)) := by rw [cell_heap hbk]; rfl
  have hlm : l ≤ maxLen := Nat.le_trans hlc hcm
  go_enter Tryz.func94, Tryz.ntmps94
  go_wp2_with (go_at_call 58; refine (buf_len b l 0 cap _ _ c0 c1 (Nat.zero_le _) hlm).mono ?_)
  rintro e W0 ⟨rfl, k, hW0⟩
  rw [Nat.sub_zero]
  have hbk0 : W0.heap[b]? = some (.cells #[.slice (some ⟨g, 0, none⟩) l cap, .int .i64 0, .int .i8 lr] 151 (0, 0)) := by rw [hW0]; exact hbk
  have hg0 : W0.heap[g]? = some (.cells cur 5 (0, 0)) := by rw [hW0]; exact hg
  have hs0 : Step [b] [b] w W0 := by rw [hW0]; exact (Step.refl _ _).drewN k
  clear hW0 c0 c1
  have c0 : W0.cell? ⟨b, 0, none⟩ = some (.slice (some ⟨g, 0, none⟩) l cap) := by rw [cell_heap hbk0]; rfl
  have c1 : W0.cell? ⟨b, 1, none⟩ = some (.int .i64 0) := by rw [cell_heap hbk0]; rfl
  have f0 : W0.frozen? ⟨b, 0, none⟩ = false := frozen_heap hbk0 0
  have f1 : W0.frozen? ⟨b, 1, none⟩ = false := frozen_heap hbk0 1
  have hcm' := hcm
  unfold maxLen at hcm' hlm
  have hc2 : cap ≤ 140737488355328 := by omega
  go_wp2_with (go_at_call 93; refine (Tryz.Buffer_tryGrow_none b _ l cap n _ c0 hlc hcm hroom).mono ?_; rintro e w' ⟨rfl, rfl⟩)
  have hbW := lt_heap hbk0
  have hwn : IntKind.i64.wrap (n : Int) = n := by rw [IntKind.wrap_i64]; omega
  go_region_with (
      go_at_call 105
      refine (Tryz.bytes_growSlice_row g l cap n cur _ ?_ hcs hlc hn hlim hc2 h1).mono ?_
      exact hg0
      rintro e w2 ⟨cap2, cells, rfl, hN, hcsz, htk, hcap2, hcm2, hbel⟩
      have hbk2 : w2.heap[b]? = some (.cells #[.slice (some ⟨g, 0, none⟩) l cap, .int .i64 0, .int .i8 lr] 151 (0, 0)) := (hbel.block b hbW).trans hbk0
      have d0 : w2.cell? ⟨b, 0, none⟩ = some (.slice (some ⟨g, 0, none⟩) l cap) := by rw [cell_heap hbk2]; rfl
      have d1 : w2.cell? ⟨b, 1, none⟩ = some (.int .i64 0) := by rw [cell_heap hbk2]; rfl
      have e0 : w2.frozen? ⟨b, 0, none⟩ = false := frozen_heap hbk2 0
      have e1 : w2.frozen? ⟨b, 1, none⟩ = false := frozen_heap hbk2 1)
  all_goals (
    go_wp2
    go_ret
    exact ⟨rfl, grew_end (n := n) hs0.drew hbel hbk2 hN rfl hbW hcap2 hcm2 hcsz htk⟩)

set_option maxHeartbeats 2000000 in
set_option maxRecDepth 100000 in
theorem grow_row_zero (b g cap n : Nat) (lr : Int) (cur : Array Value) (w : World) (hbk : w.heap[b]? = some (.cells #[.slice (some ⟨g, 0, none⟩) 0 cap, .int .i64 0, .int .i8 lr] 151 (0, 0)))
    (hg : w.heap[g]? = some (.cells cur 5 (0, 0))) (hcm : cap ≤ maxLen) (hcs : cur.size = cap) (h1 : ∀ v ∈ cur.toList.take 0, v.oneCell' = true) (hn : 1 ≤ n) (hroom : cap - 0 < n) (hlim : 0 + n ≤ 140737488355328) :
    Calls Tryz.prog 94 #[.pointer (some ⟨b, 0, none⟩), .int .i64 n] w fun e w' => e = .returned (.int .i64 0) ∧ Grew b 0 n lr (cur.toList.take 0) w w' := by
  have hnil : ∀ W, (binOp .eql 29 (.slice (some ⟨g, 0, none⟩) 0 cap) (.slice none 0 0)).run Tryz.prog W = .ok (.bool false) W := fun W => Lib.run_eql_slice_some_nil W _ _ _ Tryz.underlying29
  have c0 : w.cell? ⟨b, 0, none⟩ = some (.slice (some ⟨g, 0, none⟩) 0 cap) := by rw [cell_heap hbk]; rfl
  have c1 : w.cell? ⟨b, 1, none⟩ = some (.int .i64 (0 : Nat)) := by rw [cell_heap hbk]; rfl
  have hlc : 0 ≤ cap := Nat.zero_le _
  go_enter Tryz.func94, Tryz.ntmps94
  go_wp2_with (go_at_call 58; refine (buf_len b 0 0 cap _ _ c0 c1 (Nat.zero_le _) (Nat.zero_le _)).mono ?_)
  rintro e W0 ⟨rfl, k, hW0⟩
  simp only [Nat.sub_zero]
  have hbk0 : W0.heap[b]? = some (.cells #[.slice (some ⟨g, 0, none⟩) 0 cap, .int .i64 0, .int .i8 lr] 151 (0, 0)) := by rw [hW0]; exact hbk
  have hg0 : W0.heap[g]? = some (.cells cur 5 (0, 0)) := by rw [hW0]; exact hg
  have hs0 : Step [b] [b] w W0 := by rw [hW0]; exact (Step.refl _ _).drewN k
  clear hW0 c0 c1
  have c0 : W0.cell? ⟨b, 0, none⟩ = some (.slice (some ⟨g, 0, none⟩) 0 cap) := by rw [cell_heap hbk0]; rfl
  have c1 : W0.cell? ⟨b, 1, none⟩ = some (.int .i64 0) := by rw [cell_heap hbk0]; rfl
  have f0 : W0.frozen? ⟨b, 0, none⟩ = false := frozen_heap hbk0 0
  have f1 : W0.frozen? ⟨b, 1, none⟩ = false := frozen_heap hbk0 1
  have hcm' := hcm
  unfold maxLen at hcm'
  have hc2 : cap ≤ 140737488355328 := by omega
  go_wp2_with (go_at_call 93; refine (Tryz.Buffer_tryGrow_none b _ 0 cap n _ c0 hlc hcm hroom).mono ?_; rintro e w' ⟨rfl, rfl⟩)
  have hbW := lt_heap hbk0
  have hwn : IntKind.i64.wrap (n : Int) = n := by rw [IntKind.wrap_i64]; omega
  go_region_with (
      go_at_call 105
      refine (Tryz.bytes_growSlice_row g 0 cap n cur _ ?_ hcs hlc hn hlim hc2 h1).mono ?_
      exact hg0
      rintro e w2 ⟨cap2, cells, rfl, hN, hcsz, htk, hcap2, hcm2, hbel⟩
      have hbk2 : w2.heap[b]? = some (.cells #[.slice (some ⟨g, 0, none⟩) 0 cap, .int .i64 0, .int .i8 lr] 151 (0, 0)) := (hbel.block b hbW).trans hbk0
      have d0 : w2.cell? ⟨b, 0, none⟩ = some (.slice (some ⟨g, 0, none⟩) 0 cap) := by rw [cell_heap hbk2]; rfl
      have d1 : w2.cell? ⟨b, 1, none⟩ = some (.int .i64 0) := by rw [cell_heap hbk2]; rfl
      have e0 : w2.frozen? ⟨b, 0, none⟩ = false := frozen_heap hbk2 0
      have e1 : w2.frozen? ⟨b, 1, none⟩ = false := frozen_heap hbk2 1)
  all_goals (
    go_wp2
    go_ret
    exact ⟨rfl, by simpa using grew_end (l := 0) (n := n) hs0.drew hbel hbk2 hN rfl hbW hcap2 hcm2 hcsz htk⟩)

theorem grow_row (b g l cap n : Nat) (lr : Int) (cur : Array Value) (w : World) (hbk : w.heap[b]? = some (.cells #[.slice (some ⟨g, 0, none⟩) l cap, .int .i64 0, .int .i8 lr] 151 (0, 0)))
    (hg : w.heap[g]? = some (.cells cur 5 (0, 0))) (hlc : l ≤ cap) (hcm : cap ≤ maxLen) (hcs : cur.size = cap) (h1 : ∀ v ∈ cur.toList.take l, v.oneCell' = true) (hn : 1 ≤ n) (hroom : cap - l < n) (hlim : l + n ≤ 140737488355328) :
    Calls Tryz.prog 94 #[.pointer (some ⟨b, 0, none⟩), .int .i64 n] w fun e w' => e = .returned (.int .i64 l) ∧ Grew b l n lr (cur.toList.take l) w w' := by
  by_cases hl : l = 0
  · subst hl
    exact grow_row_zero b g cap n lr cur w hbk hg hcm hcs h1 hn hroom hlim
  · exact grow_row_pos b g l cap n lr cur w hbk hg hlc hcm hcs h1 hn hroom hlim (by simp; omega)

end Go.Proofs.YteadkokfepjgbaaGreatDoor

/- A bytes.Buffer at its end, and a byte that is read of it. -/
import Derived.Test.YteadkokfepjgbaaGreatDoorB5
namespace Go.Proofs.YteadkokfepjgbaaGreatDoor
open Go.RowKit Go.Deep
set_option linter.unusedVariables false
set_option linter.unusedSimpArgs false

theorem reset_row {b g off l cap : Nat} {lr : Int} {row : Array Value} {S T : List Nat} {w W : World} (hs : Step S T w W) (hb : b ∈ S) (hbk : W.heap[b]? = some (.cells #[.slice (some ⟨g, 0, none⟩) l cap, .int .i64 off, .int .i8 lr] 151 (0, 0)))
    (hgb : g ≠ b) (hg : W.heap[g]? = some (.cells row 5 (0, 0))) (hcm : cap ≤ maxLen) (hcs : row.size = cap) :
    Buf b g 0 [] (((W.setCell ⟨b, 0, none⟩ (.slice (some ⟨g, 0, none⟩) 0 cap)).setCell ⟨b, 1, none⟩ (.int .i64 0)).setCell ⟨b, 2, none⟩ (.int .i8 0)) ∧
      Step S T w (((W.setCell ⟨b, 0, none⟩ (.slice (some ⟨g, 0, none⟩) 0 cap)).setCell ⟨b, 1, none⟩ (.int .i64 0)).setCell ⟨b, 2, none⟩ (.int .i8 0)) := by
  refine ⟨⟨0, .inr ⟨cap, row, ?_, hgb, heap_set_other (heap_set_other (heap_set_other hg hgb _) hgb _) hgb _, by simp, hcm, hcs, by simp⟩⟩, ?_⟩
  · rw [heap_set_same (heap_set_same (heap_set_same hbk _) _)]; simp
  · exact ((hs.setCell (p := ⟨b, 0, none⟩) (.inl hb) _).setCell (p := ⟨b, 1, none⟩) (.inl hb) _).setCell (p := ⟨b, 2, none⟩) (.inl hb) _

theorem reset_nil {b : Nat} {lr : Int} {S T : List Nat} {w W : World} (hs : Step S T w W) (hb : b ∈ S) (hbk : W.heap[b]? = some (.cells #[.slice none 0 0, .int .i64 0, .int .i8 lr] 151 (0, 0))) :
    Buf b b 0 [] (((W.setCell ⟨b, 0, none⟩ (.slice none 0 0)).setCell ⟨b, 1, none⟩ (.int .i64 0)).setCell ⟨b, 2, none⟩ (.int .i8 0)) ∧
      Step S T w (((W.setCell ⟨b, 0, none⟩ (.slice none 0 0)).setCell ⟨b, 1, none⟩ (.int .i64 0)).setCell ⟨b, 2, none⟩ (.int .i8 0)) := by
  refine ⟨⟨0, .inl ⟨?_, rfl, rfl, rfl⟩⟩, ?_⟩
  · rw [heap_set_same (heap_set_same (heap_set_same hbk _) _)]; simp
  · exact ((hs.setCell (p := ⟨b, 0, none⟩) (.inl hb) _).setCell (p := ⟨b, 1, none⟩) (.inl hb) _).setCell (p := ⟨b, 2, none⟩) (.inl hb) _

set_option maxHeartbeats 1000000 in
set_option maxRecDepth 100000 in
/-- Reset, of a buffer in which nothing is left. -/
theorem buf_reset (b g off : Nat) (w : World) (h : Buf b g off [] w) :
    Calls Tryz.prog 104 #[.pointer (some ⟨b, 0, none⟩)] w fun e w' => e = .returned (.tuple #[]) ∧ Buf b g 0 [] w' ∧ Step [b] [b] w w' := by
  obtain ⟨lr, ⟨hbk, rfl, rfl, -⟩ | ⟨cap, row, hbk, hgb, hg, hnc, hcm, hcs, htk⟩⟩ := h
  · have c0 : w.cell? ⟨g, 0, none⟩ = some (.slice none 0 0) := by rw [cell_heap hbk]; rfl
    have c1 : w.cell? ⟨g, 1, none⟩ = some (.int .i64 0) := by rw [cell_heap hbk]; rfl
    have c2 : w.cell? ⟨g, 2, none⟩ = some (.int .i8 lr) := by rw [cell_heap hbk]; rfl
    have f0 : w.frozen? ⟨g, 0, none⟩ = false := frozen_heap hbk 0
    have f1 : w.frozen? ⟨g, 1, none⟩ = false := frozen_heap hbk 1
    have f2 : w.frozen? ⟨g, 2, none⟩ = false := frozen_heap hbk 2
    go_enter Tryz.func104, Tryz.ntmps104
    go_wp2
    go_end0
    exact ⟨rfl, reset_nil (Step.refl _ _) (by simp) hbk⟩
  · have c0 : w.cell? ⟨b, 0, none⟩ = some (.slice (some ⟨g, 0, none⟩) off cap) := by rw [cell_heap hbk]; rfl
    have c1 : w.cell? ⟨b, 1, none⟩ = some (.int .i64 off) := by rw [cell_heap hbk]; rfl
    have c2 : w.cell? ⟨b, 2, none⟩ = some (.int .i8 lr) := by rw [cell_heap hbk]; rfl
    have f0 : w.frozen? ⟨b, 0, none⟩ = false := frozen_heap hbk 0
    have f1 : w.frozen? ⟨b, 1, none⟩ = false := frozen_heap hbk 1
    have f2 : w.frozen? ⟨b, 2, none⟩ = false := frozen_heap hbk 2
    go_enter Tryz.func104, Tryz.ntmps104
    go_wp2
    go_end0
    exact ⟨rfl, reset_row (Step.refl _ _) (by simp) hbk hgb hg hcm hcs⟩

/-- What is told of the struct of a buffer in which nothing is left. -/
theorem Buf.ends {b g off : Nat} {w : World} (h : Buf b g off [] w) : ∃ ao l cap, w.cell? ⟨b, 0, none⟩ = some (.slice ao l cap) ∧ w.cell? ⟨b, 1, none⟩ = some (.int .i64 off) ∧ l = off := by
  obtain ⟨lr, ⟨hbk, rfl, rfl, -⟩ | ⟨cap, row, hbk, hgb, hg, hnc, hcm, hcs, htk⟩⟩ := h
  · exact ⟨none, 0, 0, by rw [cell_heap hbk]; rfl, by rw [cell_heap hbk]; rfl, rfl⟩
  · exact ⟨_, off, cap, by rw [cell_heap hbk]; rfl, by rw [cell_heap hbk]; rfl, rfl⟩

set_option maxHeartbeats 1000000 in
set_option maxRecDepth 100000 in
/-- Read, at the end. -/
theorem buf_read_end (b g off n c : Nat) (ao : Option Addr) (ev : Value) (w : World) (h : Buf b g off [] w) (hn1 : 1 ≤ n) (hev : w.cell? ⟨0, 0, none⟩ = some ev) (hb0 : b ≠ 0) :
    Calls Tryz.prog 132 #[.pointer (some ⟨b, 0, none⟩), .slice ao n c] w fun e w' => e = .returned (.tuple #[.int .i64 0, ev]) ∧ Buf b g 0 [] w' ∧ Step [b] [b] w w' := by
  obtain ⟨lr, c2, f2⟩ := h.cell2
  have h0 := h.last 0
  have hs0 : Step [b] [b] w (w.setCell ⟨b, 2, none⟩ (.int .i8 0)) := (Step.refl _ _).setCell (p := ⟨b, 2, none⟩) (.inl (by simp)) _
  obtain ⟨ao1, l, cap, d0, d1, hl⟩ := h0.ends
  have hlt : 0 < w.heap.size := by
    rcases Nat.lt_or_ge 0 w.heap.size with h' | h'
    · exact h'
    · simp [World.cell?, Array.getElem?_eq_none h'] at hev
  have hz : ((n : Int) == 0) = false := by simp; omega
  go_enter Tryz.func132, Tryz.ntmps132
  go_wp2_with (go_at_call 138; refine (buf_empty_yes b l off cap ao1 _ d0 d1 (by omega)).mono ?_)
  rintro e W1 ⟨rfl, q, hW1⟩
  have h1 : Buf b g off [] W1 := by rw [hW1]; exact h0.drewN q
  have hs1 : Step [b] [b] w W1 := by rw [hW1]; exact hs0.drewN q
  clear hW1 d0 d1 c2 f2 h0 hs0
  go_wp2_with (go_at_call 104; refine (buf_reset b g off _ h1).mono ?_)
  rintro e W2 ⟨rfl, h2, hs2⟩
  have hs3 := hs1.trans hs2
  have hev2 : W2.cell? ⟨0, 0, none⟩ = some ev := by rw [hs3.cell (p := ⟨0, 0, none⟩) hlt (by simpa using Ne.symm hb0)]; exact hev
  go_wp2
  go_quiet (fail)
  go_wp2
  go_ret2
  exact ⟨rfl, h2.drewN _, hs3.drewN _⟩

set_option maxHeartbeats 1000000 in
set_option maxRecDepth 100000 in
/-- ReadByte, at the end. -/
theorem buf_readByte_end (b g off : Nat) (ev : Value) (w : World) (h : Buf b g off [] w) (hev : w.cell? ⟨0, 0, none⟩ = some ev) (hb0 : b ≠ 0) :
    Calls Tryz.prog 133 #[.pointer (some ⟨b, 0, none⟩)] w fun e w' => e = .returned (.tuple #[.int .u8 0, ev]) ∧ Buf b g 0 [] w' ∧ Step [b] [b] w w' := by
  obtain ⟨ao1, l, cap, d0, d1, hl⟩ := h.ends
  have hlt : 0 < w.heap.size := by
    rcases Nat.lt_or_ge 0 w.heap.size with h' | h'
    · exact h'
    · simp [World.cell?, Array.getElem?_eq_none h'] at hev
  go_enter Tryz.func133, Tryz.ntmps133
  go_wp2_with (go_at_call 138; refine (buf_empty_yes b l off cap ao1 _ d0 d1 (by omega)).mono ?_)
  rintro e W1 ⟨rfl, q, hW1⟩
  have h1 : Buf b g off [] W1 := by rw [hW1]; exact h.drewN q
  have hs1 : Step [b] [b] w W1 := by rw [hW1]; exact (Step.refl _ _).drewN q
  clear hW1 d0 d1
  go_wp2_with (go_at_call 104; refine (buf_reset b g off _ h1).mono ?_)
  rintro e W2 ⟨rfl, h2, hs2⟩
  have hs3 := hs1.trans hs2
  have hev2 : W2.cell? ⟨0, 0, none⟩ = some ev := by rw [hs3.cell (p := ⟨0, 0, none⟩) hlt (by simpa using Ne.symm hb0)]; exact hev
  go_wp2
  go_quiet (fail)
  go_wp2
  go_ret2
  exact ⟨rfl, h2.drewN _, hs3.drewN _⟩

set_option maxHeartbeats 1000000 in
set_option maxRecDepth 100000 in
/-- ReadByte, of a byte that is there. -/
theorem buf_readByte (b g off : Nat) (x : Value) (bs : List Value) (w : World) (h : Buf b g off (x :: bs) w) :
    Calls Tryz.prog 133 #[.pointer (some ⟨b, 0, none⟩)] w fun e w' => e = .returned (.tuple #[x, .nilIface]) ∧ Buf b g (off + 1) bs w' ∧ Step [b] [b] w w' := by
  obtain ⟨lr, ⟨hbk, -, -, hx⟩ | ⟨cap, row, hbk, hgb, hg, hnc, hcm, hcs, htk⟩⟩ := h
  · cases hx
  simp only [List.length_cons] at hbk hnc htk
  have hx : row[off]? = some x := by
    have e := congrArg (fun l => l[0]?) htk
    simp only [List.getElem?_drop, List.getElem?_take, Nat.add_zero, List.getElem?_cons_zero] at e
    rw [if_pos (by omega)] at e
    simpa using e
  have hcm' := hcm
  unfold maxLen at hcm'
  have d0 : w.cell? ⟨b, 0, none⟩ = some (.slice (some ⟨g, 0, none⟩) (off + (bs.length + 1)) cap) := by rw [cell_heap hbk]; rfl
  have d1 : w.cell? ⟨b, 1, none⟩ = some (.int .i64 off) := by rw [cell_heap hbk]; rfl
  go_enter Tryz.func133, Tryz.ntmps133
  go_wp2_with (go_at_call 138; refine (buf_empty_no b (off + (bs.length + 1)) off cap _ _ d0 d1 (by omega)).mono ?_)
  rintro e W1 ⟨rfl, q, hW1⟩
  have hbk1 : W1.heap[b]? = some (.cells #[.slice (some ⟨g, 0, none⟩) (off + (bs.length + 1)) cap, .int .i64 off, .int .i8 lr] 151 (0, 0)) := by rw [hW1]; exact hbk
  have hg1 : W1.heap[g]? = some (.cells row 5 (0, 0)) := by rw [hW1]; exact hg
  have hs1 : Step [b] [b] w W1 := by rw [hW1]; exact (Step.refl _ _).drewN q
  clear hW1 d0 d1
  have d0 : W1.cell? ⟨b, 0, none⟩ = some (.slice (some ⟨g, 0, none⟩) (off + (bs.length + 1)) cap) := by rw [cell_heap hbk1]; rfl
  have d1 : W1.cell? ⟨b, 1, none⟩ = some (.int .i64 off) := by rw [cell_heap hbk1]; rfl
  have d2 : W1.cell? ⟨b, 2, none⟩ = some (.int .i8 lr) := by rw [cell_heap hbk1]; rfl
  have f1 : W1.frozen? ⟨b, 1, none⟩ = false := frozen_heap hbk1 1
  have f2 : W1.frozen? ⟨b, 2, none⟩ = false := frozen_heap hbk1 2
  have dg : W1.cell? ⟨g, off, none⟩ = some x := by rw [cell_heap hg1]; exact hx
  have hle1 : (0 : Int) ≤ (off : Int) := by omega
  have hle2 : (off : Int) < ((off + (bs.length + 1) : Nat) : Int) := by omega
  have hle3 : (off : Int) < (off : Int) + ((bs.length : Int) + 1) := by omega
  have HT := Lib.hid htk
  clear htk hbk hg hx
  go_wp2
  go_quiet (fail)
  go_wp2
  go_ret2
  refine ⟨rfl, ?_, ?_⟩
  · refine ⟨-1, .inr ⟨cap, row, ?_, hgb, heap_set_other (heap_set_other hg1 hgb _) hgb _, by omega, hcm, hcs, ?_⟩⟩
    · refine (heap_set_same (heap_set_same hbk1 _) _).trans ?_
      have e : off + 1 + bs.length = off + (bs.length + 1) := by omega
      simp [e]
    · have e := congrArg (List.drop 1) HT.out
      rw [List.drop_drop] at e
      rw [show off + 1 + bs.length = off + (bs.length + 1) from by omega]
      simpa using e
  · exact ((hs1.drewN _).setCell (p := ⟨b, 1, none⟩) (.inl (by simp)) _).setCell (p := ⟨b, 2, none⟩) (.inl (by simp)) _

end Go.Proofs.YteadkokfepjgbaaGreatDoor

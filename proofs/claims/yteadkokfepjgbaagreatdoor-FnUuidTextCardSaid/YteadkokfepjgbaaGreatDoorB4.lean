/- The other calls of a bytes.Buffer: a byte and a text are written, its bytes and their number told, bytes and a byte read. -/
import Derived.Test.YteadkokfepjgbaaGreatDoorB3
namespace Go.Proofs.YteadkokfepjgbaaGreatDoor
open Go.RowKit Go.Deep
set_option linter.unusedVariables false
set_option linter.unusedSimpArgs false

theorem poked {b g g1 l cap : Nat} {lr : Int} {cur : Array Value} {bs : List Value} {w w1 : World} (hbk : w1.heap[b]? = some (.cells #[.slice (some ⟨g1, 0, none⟩) (l + 1) cap, .int .i64 0, .int .i8 lr] 151 (0, 0)))
    (hgb : g1 ≠ b) (hg : w1.heap[g1]? = some (.cells cur 5 (0, 0))) (hnc : l + 1 ≤ cap) (hcm : cap ≤ maxLen) (hcs : cur.size = cap) (htk : cur.toList.take l = bs) (hs : Step [b, g] [b, g1] w w1) (v : Value) :
    Buf b g1 0 (bs ++ [v]) (w1.setCell ⟨g1, l, none⟩ v) ∧ Step [b, g] [b, g1] w (w1.setCell ⟨g1, l, none⟩ v) := by
  have hl : (cur.toList.take l).length = l := by rw [List.length_take, Array.length_toList]; omega
  have hbl : bs.length = l := by rw [← htk]; exact hl
  have hll : l < cur.toList.length := by have : cur.toList.length = cur.size := Array.length_toList; omega
  refine ⟨⟨lr, .inr ⟨cap, cur.setIfInBounds l v, ?_, hgb, heap_set_same hg v, ?_, hcm, by simpa using hcs, ?_⟩⟩, hs.setCell (p := ⟨g1, l, none⟩) (own_mem hs) v⟩
  · rw [Below.heap_setCell _ _ _ _ (Ne.symm hgb), hbk]; simp [hbl]
  · simp [hbl]; omega
  · simp only [List.length_append, hbl, Nat.zero_add, List.drop_zero, List.length_singleton, Array.toList_setIfInBounds]
    rw [List.take_add_one, List.take_set_of_le (Nat.le_refl _), List.getElem?_set_self hll, htk]
    rfl

set_option maxHeartbeats 2000000 in
set_option maxRecDepth 100000 in
/-- WriteByte. -/
theorem buf_writeByte (b g : Nat) (bs : List Value) (x : Int) (w : World) (h : Buf b g 0 bs w) (h1 : ∀ v ∈ bs, v.oneCell' = true) (hlim : bs.length + 1 ≤ 140737488355328) :
    Calls Tryz.prog 136 #[.pointer (some ⟨b, 0, none⟩), .int .u8 x] w fun e w' => e = .returned .nilIface ∧ ∃ g1, Buf b g1 0 (bs ++ [.int .u8 x]) w' ∧ Step [b, g] [b, g1] w w' := by
  obtain ⟨lr, c2, f2⟩ := h.cell2
  have h0 := h.last 0
  have hs0 : Step [b, g] [b, g] w (w.setCell ⟨b, 2, none⟩ (.int .i8 0)) := (Step.refl _ _).setCell (p := ⟨b, 2, none⟩) (.inl (by simp)) _
  have hT : ∀ W, Buf b g 0 bs W → Calls Tryz.prog 93 #[.pointer (some ⟨b, 0, none⟩), .int .i64 1] W _ := fun W hW => try_any b g 1 bs W hW (Nat.le_refl _)
  have hG : ∀ W, Buf b g 0 bs W → NoRoom b 1 W → Calls Tryz.prog 94 #[.pointer (some ⟨b, 0, none⟩), .int .i64 1] W _ := fun W hW hno => grow_any b g 1 bs W hW h1 (Nat.le_refl _) hno hlim
  go_enter Tryz.func136, Tryz.ntmps136
  go_wp2_with (go_at_call 93; refine (hT _ ?_).mono ?_)
  · exact h0
  clear c2 f2
  generalize w.setCell ⟨b, 2, none⟩ (.int .i8 0) = w0 at *
  rintro e W1 (⟨rfl, hR⟩ | ⟨rfl, rfl, hno⟩)
  · obtain ⟨lr1, cap, cur, hbk, hgb, hg, hnc, hcm, hcs, htk, hs⟩ := hR
    have d0 : W1.cell? ⟨b, 0, none⟩ = some (.slice (some ⟨g, 0, none⟩) (bs.length + 1) cap) := by rw [cell_heap hbk]; rfl
    have hlt : bs.length < cur.size := by omega
    have dg : W1.cell? ⟨g, bs.length, none⟩ = some cur[bs.length] := by rw [cell_heap hg, Array.getElem?_eq_getElem hlt]
    have fg : W1.frozen? ⟨g, bs.length, none⟩ = false := frozen_heap hg _
    have HT := Lib.hid htk
    have hcm' := hcm
    unfold maxLen at hcm'
    clear hT hG htk
    go_wp2
    go_ret
    obtain ⟨r1, r2⟩ := poked hbk hgb hg hnc hcm hcs HT.out (hs0.trans hs) (.int .u8 x)
    exact ⟨rfl, g, r1, r2⟩
  · go_wp2_with (go_at_call 94; refine (hG _ h0 hno).mono ?_)
    rintro e W1 ⟨rfl, g1, hR⟩
    obtain ⟨lr1, cap, cur, hbk, hgb, hg, hnc, hcm, hcs, htk, hs⟩ := hR
    have d0 : W1.cell? ⟨b, 0, none⟩ = some (.slice (some ⟨g1, 0, none⟩) (bs.length + 1) cap) := by rw [cell_heap hbk]; rfl
    have hlt : bs.length < cur.size := by omega
    have dg : W1.cell? ⟨g1, bs.length, none⟩ = some cur[bs.length] := by rw [cell_heap hg, Array.getElem?_eq_getElem hlt]
    have fg : W1.frozen? ⟨g1, bs.length, none⟩ = false := frozen_heap hg _
    have HT := Lib.hid htk
    have hcm' := hcm
    unfold maxLen at hcm'
    clear hT hG htk
    go_wp2
    go_ret
    obtain ⟨r1, r2⟩ := poked hbk hgb hg hnc hcm hcs HT.out (hs0.trans hs) (.int .u8 x)
    exact ⟨rfl, g1, r1, r2⟩

set_option maxHeartbeats 2000000 in
set_option maxRecDepth 100000 in
/-- WriteString: of a byte at least. -/
theorem buf_writeString (b g : Nat) (bs : List Value) (s : ByteArray) (w : World) (h : Buf b g 0 bs w) (h1 : ∀ v ∈ bs, v.oneCell' = true) (hn1 : 1 ≤ s.size) (hlim : bs.length + s.size ≤ 140737488355328) :
    Calls Tryz.prog 137 #[.pointer (some ⟨b, 0, none⟩), .string s] w fun e w' => e = .returned (.tuple #[.int .i64 s.size, .nilIface]) ∧ ∃ g1, Buf b g1 0 (bs ++ Lib.byteCells s.data.toList) w' ∧ Step [b, g] [b, g1] w w' := by
  obtain ⟨lr, c2, f2⟩ := h.cell2
  have h0 := h.last 0
  have hs0 : Step [b, g] [b, g] w (w.setCell ⟨b, 2, none⟩ (.int .i8 0)) := (Step.refl _ _).setCell (p := ⟨b, 2, none⟩) (.inl (by simp)) _
  have hbl : (Lib.byteCells s.data.toList).length = s.size := by rw [Lib.byteCells_length, ← Lib.size_eq]
  go_enter Tryz.func137, Tryz.ntmps137
  go_wp2_with (go_at_call 93; refine (try_any b g s.size bs _ ?_ hn1).mono ?_)
  · exact h0
  clear c2 f2
  generalize w.setCell ⟨b, 2, none⟩ (.int .i8 0) = w0 at *
  rintro e W1 (⟨rfl, hR⟩ | ⟨rfl, rfl, hno⟩)
  · obtain ⟨lr1, cap, cur, hbk, hgb, hg, hnc, hcm, hcs, htk, hs⟩ := hR
    have d0 : W1.cell? ⟨b, 0, none⟩ = some (.slice (some ⟨g, 0, none⟩) (bs.length + s.size) cap) := by rw [cell_heap hbk]; rfl
    have hne : ¬ cap = bs.length := by omega
    have hcp := Lib.run_copy_row_string (P := Tryz.prog) W1 29 9 3 5 g bs.length s.size (cap - bs.length) s cur 5 Tryz.underlying29 size8 hg (Nat.le_refl _) (by omega)
    have hcm' := hcm
    unfold maxLen at hcm'
    have HL := Lib.hid hbl
    clear hbl
    go_wp2
    go_ret2
    obtain ⟨r1, r2⟩ := wrote hbk hgb hg hnc hcm hcs htk (hs0.trans hs) HL.out
    exact ⟨rfl, g, r1, r2⟩
  · go_wp2_with (go_at_call 94; refine (grow_any b g s.size bs _ h0 h1 hn1 hno hlim).mono ?_)
    rintro e W1 ⟨rfl, g1, hR⟩
    obtain ⟨lr1, cap, cur, hbk, hgb, hg, hnc, hcm, hcs, htk, hs⟩ := hR
    have d0 : W1.cell? ⟨b, 0, none⟩ = some (.slice (some ⟨g1, 0, none⟩) (bs.length + s.size) cap) := by rw [cell_heap hbk]; rfl
    have hne : ¬ cap = bs.length := by omega
    have hcp := Lib.run_copy_row_string (P := Tryz.prog) W1 29 9 3 5 g1 bs.length s.size (cap - bs.length) s cur 5 Tryz.underlying29 size8 hg (Nat.le_refl _) (by omega)
    have hcm' := hcm
    unfold maxLen at hcm'
    have HL := Lib.hid hbl
    clear hbl
    go_wp2
    go_ret2
    obtain ⟨r1, r2⟩ := wrote hbk hgb hg hnc hcm hcs htk (hs0.trans hs) HL.out
    exact ⟨rfl, g1, r1, r2⟩

/-- Len, of the bytes that are not read. -/
theorem buf_left (b g off : Nat) (bs : List Value) (w : World) (h : Buf b g off bs w) :
    Calls Tryz.prog 58 #[.pointer (some ⟨b, 0, none⟩)] w fun e w' => e = .returned (.int .i64 bs.length) ∧ ∃ n, w' = w.drewN n := by
  obtain ⟨lr, ⟨hbk, rfl, rfl, rfl⟩ | ⟨cap, cur, hbk, hgb, hg, hnc, hcm, hcs, htk⟩⟩ := h
  · exact buf_len g 0 0 0 none w (by rw [cell_heap hbk]; rfl) (by rw [cell_heap hbk]; rfl) (Nat.le_refl _) (Nat.zero_le _)
  · refine (buf_len b (off + bs.length) off cap _ w (by rw [cell_heap hbk]; rfl) (by rw [cell_heap hbk]; rfl) (by omega) (by omega)).mono ?_
    rintro e w' ⟨rfl, hw⟩
    exact ⟨ret_of (by congr 2; omega), hw⟩

end Go.Proofs.YteadkokfepjgbaaGreatDoor

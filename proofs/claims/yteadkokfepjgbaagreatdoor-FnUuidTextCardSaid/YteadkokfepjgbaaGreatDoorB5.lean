/- What a bytes.Buffer tells and gives: its bytes, bytes that are read, a byte that is read, the end. -/
import Derived.Test.YteadkokfepjgbaaGreatDoorB4
import Derived.Deep.RegionHeld3
import Derived.StillTailTactics
namespace Go.Proofs.YteadkokfepjgbaaGreatDoor
open Go.RowKit Go.Deep
set_option linter.unusedVariables false
set_option linter.unusedSimpArgs false

/-- The value v is a slice of the cells cs in block k, or nil. -/
def IsB (cs : List Value) (v : Value) (k : Nat) (w : World) : Prop :=
  ∃ c, (v = .slice none 0 0 ∧ cs = []) ∨ ∃ o, v = .slice (some ⟨k, o, none⟩) cs.length c ∧ cs.length ≤ c ∧ c ≤ maxLen ∧ k < w.heap.size ∧ ∀ j x, cs[j]? = some x → w.cell? ⟨k, o + j, none⟩ = some x

theorem IsB.step {cs : List Value} {v : Value} {k : Nat} {S T : List Nat} {w w1 : World} (h : IsB cs v k w) (hs : Step S T w w1) (hk : k ∉ S) : IsB cs v k w1 := by
  obtain ⟨c, h | ⟨o, h1, h2, h3, h4, h5⟩⟩ := h
  · exact ⟨c, .inl h⟩
  · exact ⟨c, .inr ⟨o, h1, h2, h3, Nat.lt_of_lt_of_le h4 hs.size, fun j x hj => by rw [hs.cell (p := ⟨k, o + j, none⟩) h4 hk]; exact h5 j x hj⟩⟩

set_option maxHeartbeats 1000000 in
/-- Bytes, of a buffer of which nothing was read. -/
theorem buf_bytes (b g : Nat) (bs : List Value) (w : World) (h : Buf b g 0 bs w) :
    Calls Tryz.prog 70 #[.pointer (some ⟨b, 0, none⟩)] w fun e w' => ∃ v, e = .returned v ∧ IsB bs v g w' ∧ ∃ n, w' = w.drewN n := by
  obtain ⟨lr, ⟨hbk, rfl, _, rfl⟩ | ⟨cap, cur, hbk, hgb, hg, hnc, hcm, hcs, htk⟩⟩ := h
  · have c0 : w.cell? ⟨g, 0, none⟩ = some (.slice none 0 0) := by rw [cell_heap hbk]; rfl
    have c1 : w.cell? ⟨g, 1, none⟩ = some (.int .i64 0) := by rw [cell_heap hbk]; rfl
    go_enter Tryz.func70, Tryz.ntmps70
    go_wp2
    go_quiet (fail)
    go_wp2
    go_ret
    exact ⟨_, rfl, ⟨0, .inl ⟨rfl, rfl⟩⟩, _, rfl⟩
  · simp only [Nat.zero_add, List.drop_zero] at hbk hnc htk
    have c0 : w.cell? ⟨b, 0, none⟩ = some (.slice (some ⟨g, 0, none⟩) bs.length cap) := by rw [cell_heap hbk]; rfl
    have c1 : w.cell? ⟨b, 1, none⟩ = some (.int .i64 0) := by rw [cell_heap hbk]; rfl
    have hcells : ∀ j x, bs[j]? = some x → w.cell? ⟨g, 0 + j, none⟩ = some x := fun j x hj => by
      rw [cell_heap hg, Nat.zero_add]
      rw [← htk, List.getElem?_take] at hj
      split at hj
      · simpa using hj
      · cases hj
    have hlt := lt_heap hg
    have HC := Lib.hid hcells
    have hcm' := hcm
    unfold maxLen at hcm'
    clear hcells htk
    go_enter Tryz.func70, Tryz.ntmps70
    go_wp2
    go_quiet (fail)
    go_wp2
    go_ret
    refine ⟨_, rfl, ⟨cap, .inr ⟨0, rfl, hnc, hcm, hlt, HC.out⟩⟩, _, rfl⟩

theorem buf_empty_yes (b l off cap : Nat) (ao : Option Addr) (w : World) (c0 : w.cell? ⟨b, 0, none⟩ = some (.slice ao l cap)) (c1 : w.cell? ⟨b, 1, none⟩ = some (.int .i64 off)) (hl : l ≤ off) :
    Calls Tryz.prog 138 #[.pointer (some ⟨b, 0, none⟩)] w fun e w' => e = .returned (.bool true) ∧ ∃ n, w' = w.drewN n := by
  go_enter Tryz.func138, Tryz.ntmps138
  go_wp2
  go_quiet (fail)
  go_wp2
  go_ret
  exact ⟨rfl, _, rfl⟩

theorem buf_empty_no (b l off cap : Nat) (ao : Option Addr) (w : World) (c0 : w.cell? ⟨b, 0, none⟩ = some (.slice ao l cap)) (c1 : w.cell? ⟨b, 1, none⟩ = some (.int .i64 off)) (hl : off < l) :
    Calls Tryz.prog 138 #[.pointer (some ⟨b, 0, none⟩)] w fun e w' => e = .returned (.bool false) ∧ ∃ n, w' = w.drewN n := by
  go_enter Tryz.func138, Tryz.ntmps138
  go_wp2
  go_quiet (fail)
  go_wp2
  go_ret
  exact ⟨ret_of (by show Value.bool (decide _) = _; simpa using hl), _, rfl⟩

theorem read_end {b g off d cap k : Nat} {bs : List Value} {cur row : Array Value} {lr : Int} {td : TypeId} {w W1 : World} (hs : Step [b, d] [b, d] w W1)
    (hbk : W1.heap[b]? = some (.cells #[.slice (some ⟨g, 0, none⟩) (off + bs.length) cap, .int .i64 off, .int .i8 lr] 151 (0, 0))) (hg : W1.heap[g]? = some (.cells row 5 (0, 0))) (hd : W1.heap[d]? = some (.cells cur td (0, 0)))
    (hgb : g ≠ b) (hdb : d ≠ b) (hdg : d ≠ g) (hnc : off + bs.length ≤ cap) (hcm : cap ≤ maxLen) (hcs : row.size = cap) (htk : (row.toList.take (off + bs.length)).drop off = bs) (hk : k ≤ bs.length) (cs : Array Value) :
    Buf b g (off + k) (bs.drop k) (((W1.drew.setRow d cs).setCell ⟨b, 1, none⟩ (.int .i64 ((off : Int) + k))).setCell ⟨b, 2, none⟩ (.int .i8 (-1))) ∧
      (((W1.drew.setRow d cs).setCell ⟨b, 1, none⟩ (.int .i64 ((off : Int) + k))).setCell ⟨b, 2, none⟩ (.int .i8 (-1))).heap[d]? = some (.cells cs td (0, 0)) ∧
      Step [b, d] [b, d] w (((W1.drew.setRow d cs).setCell ⟨b, 1, none⟩ (.int .i64 ((off : Int) + k))).setCell ⟨b, 2, none⟩ (.int .i8 (-1))) := by
  refine ⟨⟨-1, .inr ⟨cap, row, ?_, hgb, ?_, by rw [List.length_drop]; omega, hcm, hcs, ?_⟩⟩, ?_, ?_⟩
  · have h0 : (W1.drew.setRow d cs).heap[b]? = _ := (setRow_other _ _ _ _ (Ne.symm hdb)).trans hbk
    rw [heap_set_same (heap_set_same h0 _)]
    have e : off + k + (bs.length - k) = off + bs.length := by omega
    simp [List.length_drop, e]
  · exact heap_set_other (heap_set_other ((setRow_other _ _ _ _ (Ne.symm hdg)).trans hg) hgb _) hgb _
  · have e : off + k + (bs.drop k).length = off + bs.length := by rw [List.length_drop]; omega
    rw [e, ← List.drop_drop, htk]
  · exact heap_set_other (heap_set_other (setRow_heap _ _ _ _ _ _ hd) hdb _) hdb _
  · exact ((hs.drew.setRow (by simp) cs).setCell (p := ⟨b, 1, none⟩) (.inl (by simp)) _).setCell (p := ⟨b, 2, none⟩) (.inl (by simp)) _

set_option maxHeartbeats 1000000 in
set_option maxRecDepth 100000 in
/-- Read: bytes that are there, into a row. -/
theorem buf_read (b g off d o n c : Nat) (bs : List Value) (cur : Array Value) (td : TypeId) (w : World) (h : Buf b g off bs w) (hne : 1 ≤ bs.length) (h1 : ∀ v ∈ bs, v.oneCell' = true)
    (hd : w.heap[d]? = some (.cells cur td (0, 0))) (hdb : d ≠ b) (hdg : d ≠ g) (hfit : o + n ≤ cur.size) (hn1 : 1 ≤ n) (hnm : n ≤ maxLen) :
    Calls Tryz.prog 132 #[.pointer (some ⟨b, 0, none⟩), .slice (some ⟨d, o, none⟩) n c] w fun e w' => e = .returned (.tuple #[.int .i64 (min n bs.length : Nat), .nilIface]) ∧
      Buf b g (off + min n bs.length) (bs.drop (min n bs.length)) w' ∧ w'.heap[d]? = some (.cells (cur.toList.take o ++ bs.take (min n bs.length) ++ cur.toList.drop (o + min n bs.length)).toArray td (0, 0)) ∧ Step [b, d] [b, d] w w' := by
  obtain ⟨lr, ⟨hbk, rfl, _, rfl⟩ | ⟨cap, row, hbk, hgb, hg, hnc, hcm, hcs, htk⟩⟩ := h
  · simp at hne
  have hk : min n bs.length ≤ n ∧ min n bs.length ≤ bs.length ∧ 1 ≤ min n bs.length := by omega
  obtain ⟨k, hkk⟩ : ∃ k, k = min n bs.length := ⟨_, rfl⟩
  rw [← hkk] at hk ⊢
  obtain ⟨hk1, hk2, hk3⟩ := hk
  have hcm' := hcm
  unfold maxLen at hcm' hnm
  have c2 : w.cell? ⟨b, 2, none⟩ = some (.int .i8 lr) := by rw [cell_heap hbk]; rfl
  have f2 : w.frozen? ⟨b, 2, none⟩ = false := frozen_heap hbk 2
  have hbk0 := heap_set_same (o := 2) hbk (.int .i8 0)
  have hg0 : (w.setCell ⟨b, 2, none⟩ (.int .i8 0)).heap[g]? = some (.cells row 5 (0, 0)) := heap_set_other hg hgb _
  have hd0 : (w.setCell ⟨b, 2, none⟩ (.int .i8 0)).heap[d]? = some (.cells cur td (0, 0)) := heap_set_other hd hdb _
  have hs0 : Step [b, d] [b, d] w (w.setCell ⟨b, 2, none⟩ (.int .i8 0)) := (Step.refl _ _).setCell (p := ⟨b, 2, none⟩) (.inl (by simp)) _
  go_enter Tryz.func132, Tryz.ntmps132
  go_wp2_with (go_at_call 138; refine (buf_empty_no b (off + bs.length) off cap (some ⟨g, 0, none⟩) _ ?_ ?_ (by omega)).mono ?_)
  · rw [cell_heap hbk0]; simp
  · rw [cell_heap hbk0]; simp
  clear c2 f2
  generalize w.setCell ⟨b, 2, none⟩ (.int .i8 0) = w0 at *
  rintro e W1 ⟨rfl, q, hW1⟩
  have hbk1 : W1.heap[b]? = some (.cells #[.slice (some ⟨g, 0, none⟩) (off + bs.length) cap, .int .i64 off, .int .i8 0] 151 (0, 0)) := by rw [hW1]; simpa using hbk0
  have hg1 : W1.heap[g]? = some (.cells row 5 (0, 0)) := by rw [hW1]; exact hg0
  have hd1 : W1.heap[d]? = some (.cells cur td (0, 0)) := by rw [hW1]; exact hd0
  have hs1 : Step [b, d] [b, d] w W1 := by rw [hW1]; exact hs0.drewN q
  clear hW1
  have c0 : W1.cell? ⟨b, 0, none⟩ = some (.slice (some ⟨g, 0, none⟩) (off + bs.length) cap) := by rw [cell_heap hbk1]; rfl
  have c1 : W1.cell? ⟨b, 1, none⟩ = some (.int .i64 off) := by rw [cell_heap hbk1]; rfl
  have hmin : (bs.take k).length = Nat.min bs.length n := by rw [List.length_take]; show min k bs.length = min bs.length n; omega
  have hcells : ∀ j v, (bs.take k)[j]? = some v → W1.cell? ((⟨g, off, none⟩ : Addr).add j) = some v := fun j v hj => by
    rw [Lib.addr_add, cell_heap hg1]
    rw [List.getElem?_take] at hj
    split at hj
    · rw [← htk, List.getElem?_drop, List.getElem?_take] at hj
      split at hj
      · simpa using hj
      · cases hj
    · cases hj
  have hcp := run_copy_row (P := Tryz.prog) W1.drew 29 29 3 5 d o n c ⟨g, off, none⟩ bs.length (cap - off) cur td (bs.take k) Tryz.underlying29 size8 hd1 hmin hcells (by rw [hmin]; show o + min bs.length n ≤ _; omega) (fun v hv => h1 v (List.mem_of_mem_take hv))
  rw [hmin] at hcp
  have hmk : Nat.min bs.length n = k := by show min bs.length n = k; omega
  rw [hmk] at hcp
  have hoc : ¬ cap = off := by omega
  have hbd : b ≠ d := Ne.symm hdb
  have hbk2 : ∀ cs, (W1.drew.setRow d cs).heap[b]? = some (.cells #[.slice (some ⟨g, 0, none⟩) (off + bs.length) cap, .int .i64 off, .int .i8 0] 151 (0, 0)) := fun cs => by rw [setRow_other _ _ _ _ hbd]; exact hbk1
  have e0 : ∀ cs, (W1.drew.setRow d cs).cell? ⟨b, 0, none⟩ = some (.slice (some ⟨g, 0, none⟩) (off + bs.length) cap) := fun cs => by rw [cell_heap (hbk2 cs)]; rfl
  have e1 : ∀ cs, (W1.drew.setRow d cs).cell? ⟨b, 1, none⟩ = some (.int .i64 off) := fun cs => by rw [cell_heap (hbk2 cs)]; rfl
  have e2 : ∀ cs, (W1.drew.setRow d cs).cell? ⟨b, 2, none⟩ = some (.int .i8 0) := fun cs => by rw [cell_heap (hbk2 cs)]; rfl
  have g1 : ∀ cs, (W1.drew.setRow d cs).frozen? ⟨b, 1, none⟩ = false := fun cs => frozen_heap (hbk2 cs) 1
  have g2 : ∀ cs, (W1.drew.setRow d cs).frozen? ⟨b, 2, none⟩ = false := fun cs => frozen_heap (hbk2 cs) 2
  have hle1 : (0 : Int) ≤ (off : Int) := by omega
  have hle2 : (off : Int) ≤ ((off + bs.length : Nat) : Int) := by omega
  have hle3 : ((off + bs.length : Nat) : Int) ≤ (cap : Int) := by omega
  have hle4 : (off : Int) ≤ (off : Int) + (bs.length : Int) := by omega
  have HB := Lib.hid hbk2
  have HT := Lib.hid htk
  clear hcells hmin hmk hkk htk hbk0 hg0 hd0 hs0 hbk hbk2
  go_wp2
  go_region_held3 (fun w' => w'.cell? ⟨b, 0, none⟩ = some (.slice (some ⟨g, 0, none⟩) (off + bs.length) cap) ∧ w'.cell? ⟨b, 1, none⟩ = some (.int .i64 off)) (refine ⟨?_, ?_⟩ <;> first | assumption | (exact e0 _) | (exact e1 _)) (first | fail)
  all_goals go_wp2
  go_ret2
  refine ⟨rfl, ?_⟩
  rw [show List.take o cur.toList ++ List.take k bs ++ List.drop (o + k) cur.toList = List.take o cur.toList ++ (List.take k bs ++ List.drop (o + k) cur.toList) from List.append_assoc _ _ _]
  exact read_end hs1 hbk1 hg1 hd1 hgb hdb hdg hnc hcm hcs HT.out hk2 _

end Go.Proofs.YteadkokfepjgbaaGreatDoor

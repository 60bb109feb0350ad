/- What the implementation answers for an identifier's text; the bytes as the specification takes them. -/
import Derived.Test.YteadkokfepjgbaaGreatDoorJ3
import Derived.Test.YteadkokfepjgbaaGreatDoorH6
import Derived.OwnWalk
namespace Go.Proofs.YteadkokfepjgbaaGreatDoor
open Go.RowKit Go.Deep
set_option linter.unusedVariables false
set_option linter.unusedSimpArgs false

theorem uuid_any (a : Option Addr) (len cap : Nat) (l : List UInt8) (w : World) (h : Holds w a len l) : Calls Tryz.prog 40 #[.slice a len cap] w fun e w' => e = .returned (.agg (Lib.byteCells (u16 l)).toArray) ∧ Below w.heap.size w w' := by
  obtain ⟨hl, h0 | ⟨x, rfl, hx, hc⟩⟩ := h
  · obtain rfl : l = [] := List.eq_nil_of_length_eq_zero (hl.trans h0)
    subst h0
    exact uuid_none a cap w
  · exact uuid_some x len cap l w hl hx hc

set_option maxRecDepth 100000 in
theorem uuidText_impl (a : Option Addr) (len cap : Nat) (l : List UInt8) (w : World) (h : Holds w a len l) : Calls Tryz.prog 20 #[.slice a len cap] w fun e w' => ∃ v k, e = .returned v ∧ IsB (Lib.byteCells (uuidText (u16 l))) v k w' ∧ w.heap.size ≤ k ∧ Below w.heap.size w w' := by
  have h1 := Lib.hid (uuid_any a len cap l w h)
  have h2 := Lib.hid (ustring_any (u16 l) (u16_length l))
  have HL := Lib.hid (uuidText_length (u16 l) (u16_length l))
  have hcv := fun w s => run_bytes_of_string (P := Tryz.prog) w 9 29 5 s Tryz.underlying9 Tryz.underlying29 Tryz.underlying5
  go_enter Tryz.func20, Tryz.ntmps20
  go_wp2_with (fail)
  refine h1.out.mono ?_
  rintro e W1 ⟨rfl, hB1⟩
  go_wp2_with (fail)
  refine (h2.out _).mono ?_
  rintro e W2 ⟨rfl, hB2⟩
  go_wp2
  go_ret
  have hB := hB1.trans (hB2.mono hB1.size)
  have hm : (uuidText (u16 l)).length ≤ maxLen := by rw [HL.out]; simp [maxLen]
  exact ⟨_, W2.heap.size, rfl, conv_IsB _ (grownCap_ge _ _ _ _) (grownCap_le_maxLen _ _ _ _ hm) (heap_alloc_new W2 _), hB.size, (hB.alloc hB.size _).drew⟩

theorem isDash_any (i : Int) (w : World) : Calls Tryz.prog 43 #[.int .i64 i] w fun e w' => e = .returned (.bool (i == 8 || i == 13 || i == 18 || i == 23)) ∧ w = w' := by
  by_cases h : i = 8 ∨ i = 13 ∨ i = 18 ∨ i = 23
  · rcases h with rfl | rfl | rfl | rfl <;> (go_enter Tryz.func43, Tryz.ntmps43; go_wp2; go_ret; exact ⟨rfl, rfl⟩)
  · simp only [not_or] at h
    obtain ⟨h1, h2, h3, h4⟩ := h
    go_enter Tryz.func43, Tryz.ntmps43
    go_wp2
    go_ret
    exact ⟨rfl, rfl⟩

theorem infoU8 : (Tryz.prog.info? 5).map (fun i => (i.zero, i.size, i.bytes)) = some (some (.int .u8 0), 1, 1) := by kernel_rfl

set_option maxRecDepth 100000 in
theorem uuid16_any (a : Option Addr) (len cap : Nat) (l : List UInt8) (w : World) (h : Holds w a len l) : Calls Tryz.prog 42 #[.slice a len cap] w fun e w' => e = .returned (.slice (some ⟨w.heap.size, 0, none⟩) 16 16) ∧ w'.heap[w.heap.size]? = some (.cells (Lib.byteCells (u16 l)).toArray 5 (0, 0)) ∧ Below w.heap.size w w' := by
  have hz : madeCells #[.int .u8 0] 16 = (Lib.byteCells (List.replicate 16 0)).toArray := by kernel_rfl
  have hmk : ∀ w : World, (Instr.makeSlice 29 (.int .i64 16) (.int .i64 16)).run Tryz.prog w = .ok (.slice (some ⟨w.heap.size, 0, none⟩) 16 16) (w.alloc (.cells (Lib.byteCells (List.replicate 16 0)).toArray 5)) := fun w => by
    have := run_make_row' (P := Tryz.prog) 29 5 (.int .u8 0) 1 Tryz.underlying29 infoU8 rfl .i64 .i64 16 (by omega) (by omega) w
    rw [hz] at this
    exact this
  obtain ⟨W1, hW1⟩ : ∃ W1, w.alloc (.cells (Lib.byteCells (List.replicate 16 0)).toArray 5) = W1 := ⟨_, rfl⟩
  have hm := hmk w
  rw [hW1] at hm
  have g1 : W1.heap[w.heap.size]? = some (.cells (Lib.byteCells (List.replicate 16 0)).toArray 5 (0, 0)) := by rw [← hW1]; exact heap_alloc_new w _
  have b1 : Below w.heap.size w W1 := by rw [← hW1]; exact (Below.refl _ _).alloc (Nat.le_refl _) _
  clear hz hmk hW1
  obtain ⟨hl, h0 | ⟨x, rfl, hxb, hc⟩⟩ := h
  · obtain rfl : l = [] := List.eq_nil_of_length_eq_zero (hl.trans h0)
    subst h0
    have hcp := fun d => run_copy_none (P := Tryz.prog) W1 29 29 3 5 d a 16 16 0 cap Tryz.underlying29 size8 rfl
    have G := Lib.hid g1
    have B := Lib.hid b1
    clear g1 b1
    go_enter Tryz.func42, Tryz.ntmps42
    go_wp2
    go_ret
    exact ⟨rfl, G.out, B.out⟩
  · have hsrc : ∀ j v, (Lib.byteCells (l.take 16))[j]? = some v → W1.cell? (x.add j) = some v := fun j v hj => by
      have hxj : (x.add j).block < w.heap.size := by rw [Lib.block_add]; exact hxb
      rw [World.cell?_of_block (w := w) (b1.block _ hxj)]
      refine hc j v ?_
      rw [Lib.byteCells, List.map_take, List.getElem?_take] at hj
      split at hj
      · exact hj
      · cases hj
    have hcp := run_copy_row (P := Tryz.prog) W1 29 29 3 5 w.heap.size 0 16 16 x len cap (Lib.byteCells (List.replicate 16 0)).toArray 5 (Lib.byteCells (l.take 16)) Tryz.underlying29 size8 g1 (by simp [Lib.byteCells_length, hl, Nat.min_comm]) hsrc (by simp [Lib.byteCells_length]; omega) (Lib.byteCells_one _)
    rw [show ((Lib.byteCells (List.replicate 16 0)).toArray.toList.take 0 ++ Lib.byteCells (l.take 16) ++ (Lib.byteCells (List.replicate 16 0)).toArray.toList.drop (0 + (Lib.byteCells (l.take 16)).length)) = Lib.byteCells (u16 l) from u16_cells l] at hcp
    obtain ⟨W2, hW2⟩ : ∃ W2, W1.setRow w.heap.size (Lib.byteCells (u16 l)).toArray = W2 := ⟨_, rfl⟩
    rw [hW2] at hcp
    have G := Lib.hid (show W2.heap[w.heap.size]? = some (.cells (Lib.byteCells (u16 l)).toArray 5 (0, 0)) by rw [← hW2]; exact setRow_heap _ _ _ _ _ _ g1)
    have B := Lib.hid (show Below w.heap.size w W2 by rw [← hW2]; exact b1.trans ((Step.setRow (Step.refl [w.heap.size] _) (.inl (by simp)) _).below w.heap.size b1.size (by simp)))
    clear hW2 g1 b1 hsrc
    go_enter Tryz.func42, Tryz.ntmps42
    go_wp2
    go_ret
    exact ⟨rfl, G.out, B.out⟩

end Go.Proofs.YteadkokfepjgbaaGreatDoor

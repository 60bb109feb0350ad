/- The answers that are known ahead are got. -/
import Derived.Test.YteadkokfepjgbaaGreatDoorG6
namespace Go.Proofs.YteadkokfepjgbaaGreatDoor
open Go.RowKit Go.Deep
set_option linter.unusedVariables false
set_option linter.unusedSimpArgs false

theorem alloc_src (w : World) (l : List UInt8) (ty : TypeId) : ∀ j v, (Lib.byteCells l)[j]? = some v → (w.alloc (.cells (Lib.byteCells l).toArray ty)).cell? ((⟨w.heap.size, 0, none⟩ : Addr).add j) = some v := fun j v hj => by
  rw [Lib.addr_add, cell_heap (heap_alloc_new _ _)]
  simpa using hj

theorem alloc_IsB {w0 w : World} (l : List UInt8) (ty : TypeId) {k : Nat} (hk : k = w.heap.size) (hl : l.length ≤ maxLen) (hw : w0 = w.alloc (.cells (Lib.byteCells l).toArray ty)) : IsB (Lib.byteCells l) (.slice (some ⟨k, 0, none⟩) l.length l.length) k w0 := by
  subst hk hw
  refine ⟨l.length, .inr ⟨0, by rw [Lib.byteCells_length], by rw [Lib.byteCells_length]; exact Nat.le_refl _, hl, by simp, fun j x hj => ?_⟩⟩
  have := alloc_src w l ty j x hj
  rwa [Lib.addr_add] at this

set_option maxRecDepth 100000 in
set_option maxHeartbeats 4000000 in
theorem known_any (w : World) : Calls Tryz.prog 14 #[] w fun e w' => e = .returned (.bool true) ∧ Below w.heap.size w w' := by
  have h1 := Lib.hid (Put_bin 258)
  have h2 := Lib.hid (Put_cmp (-3))
  have h3 := Lib.hid (Get_bin 5 5 0 0 1 2 [9])
  go_enter Tryz.func14, Tryz.ntmps14
  go_wp2_with (fail)
  refine (h1.out _ (by omega) (by omega)).mono ?_
  rintro e W1 ⟨v1, k1, rfl, hk1, hv1, hB1⟩
  go_wp2_with (fail)
  refine (h2.out _ (by omega) (by omega)).mono ?_
  rintro e W2 ⟨v2, k2, rfl, hk2, hv2, hB2⟩
  go_wp2_with (fail)
  refine (h3.out _ _ (by simp) (by simp) (alloc_src W2 [0, 0, 1, 2, 9] 5) (by omega)).mono ?_
  rintro e W3 ⟨rfl, hB3⟩
  have hx : wrap32 (Lib.beNat [0, 0, 1, 2]) = 258 := by kernel_rfl
  rw [hx]
  go_wp2_with (fail)
  have i1 := ((hv1.step (Step.ofBelow (S := []) hB2) (by simp)).step (((Step.refl [] _).alloc _).trans (Step.ofBelow hB3)) (by simp))
  have i2 := hv2.step (((Step.refl [] _).alloc _).trans (Step.ofBelow (S := []) hB3)) (by simp)
  have HB := Lib.hid ((hB1.trans (hB2.mono hB1.size)).trans (((Below.refl w.heap.size W2).alloc (Nat.le_trans hB1.size hB2.size) _).trans (hB3.mono (by have := hB1.size; have := hB2.size; simp; omega))))
  refine (equal_same k1 (W3.heap.size + 1) v1 _ [0, 0, 1, 2] _ (i1.step (((Step.refl [] _).alloc _).alloc _) (by simp)) (alloc_IsB [0, 0, 1, 2] 5 (by simp) (by simp [maxLen]) rfl) (by simp)).mono ?_
  rintro e W4 ⟨rfl, n4, rfl⟩
  go_wp2_with (fail)
  have hz : Lib.uvarint (Lib.zigzag (-3)) = [5] := by kernel_rfl
  rw [hz] at i2
  refine (equal_same k2 (W3.heap.size + 1 + 1) v2 _ [5] _ (i2.step ((((Step.refl [] _).alloc _).alloc _).drewN n4 |>.alloc _) (by simp)) (alloc_IsB [5] 5 (by simp) (by simp [maxLen]) rfl) (by simp)).mono ?_
  rintro e W5 ⟨rfl, n5, rfl⟩
  have hsz : w.heap.size ≤ W3.heap.size := HB.out.size
  have HF := Lib.hid (below_drewN (((below_drewN ((HB.out.alloc hsz (.cells #[.int .i64 8, .int .i64 258, .slice none 0 0, .int .i64 0, .int .i64 0, .slice none 0 0, .slice none 0 0] 57)).alloc (by simp; omega) (.cells (Lib.byteCells [0, 0, 1, 2]).toArray 5)) n4).alloc (by simp; omega) (.cells (Lib.byteCells [5]).toArray 5))) n5)
  go_wp2
  go_ret
  exact ⟨rfl, HF.out⟩

end Go.Proofs.YteadkokfepjgbaaGreatDoor

/- A value of numbers of four bytes is put over a new memory buffer. -/
import Derived.Test.YteadkokfepjgbaaGreatDoorG1
namespace Go.Proofs.YteadkokfepjgbaaGreatDoor
open Go.RowKit Go.Deep
set_option linter.unusedVariables false
set_option linter.unusedSimpArgs false

theorem boxes_bin (x : Int) (w W' : World) (h : Below ((w.alloc (.cells #[.int .i64 0, .bool true, .bool false, .bool false, .int .i32 0, .int .i32 0, .int .i32 0] 37)).alloc (.cells #[.int .i64 8, .int .i64 x, .slice none 0 0, .int .i64 0, .int .i64 0, .slice none 0 0, .slice none 0 0] 57)).heap.size ((w.alloc (.cells #[.int .i64 0, .bool true, .bool false, .bool false, .int .i32 0, .int .i32 0, .int .i32 0] 37)).alloc (.cells #[.int .i64 8, .int .i64 x, .slice none 0 0, .int .i64 0, .int .i64 0, .slice none 0 0, .slice none 0 0] 57)) W') :
    W'.cell? ⟨w.heap.size, 0, none⟩ = some (.int .i64 0) ∧ W'.cell? ⟨w.heap.size, 1, none⟩ = some (.bool true) ∧ W'.cell? ⟨w.heap.size, 2, none⟩ = some (.bool false) ∧ W'.cell? ⟨w.heap.size, 3, none⟩ = some (.bool false) ∧ W'.cell? ⟨w.heap.size, 4, none⟩ = some (.int .i32 0) ∧ W'.cell? ⟨w.heap.size, 5, none⟩ = some (.int .i32 0) ∧ W'.cell? ⟨w.heap.size, 6, none⟩ = some (.int .i32 0) ∧ W'.cell? ⟨w.heap.size + 1, 0, none⟩ = some (.int .i64 8) ∧ W'.cell? ⟨w.heap.size + 1, 1, none⟩ = some (.int .i64 x) ∧ W'.cell? ⟨w.heap.size + 1, 2, none⟩ = some (.slice none 0 0) ∧ W'.cell? ⟨w.heap.size + 1, 3, none⟩ = some (.int .i64 0) ∧ W'.cell? ⟨w.heap.size + 1, 4, none⟩ = some (.int .i64 0) ∧ W'.cell? ⟨w.heap.size + 1, 5, none⟩ = some (.slice none 0 0) ∧ W'.cell? ⟨w.heap.size + 1, 6, none⟩ = some (.slice none 0 0) := by
  refine ⟨?_, ?_, ?_, ?_, ?_, ?_, ?_, ?_, ?_, ?_, ?_, ?_, ?_, ?_⟩ <;> (refine (World.cell?_of_block (h.block _ (by simp <;> omega))).trans ?_; simp)

set_option maxRecDepth 100000 in
set_option maxHeartbeats 8000000 in
theorem Put_bin (x : Int) (w : World) (h0 : -2147483648 ≤ x) (h1 : x < 2147483648) :
    Calls Tryz.prog 34 #[confPlain 0, i32V x] w fun e w' => ∃ v k, e = .returned (.tuple #[v, .int .i64 0]) ∧ w.heap.size ≤ k ∧ IsB (Lib.byteCells (Lib.beBytes 4 (x % 4294967296).toNat)) v k w' ∧ Below w.heap.size w w' := by
  go_enter Tryz.func34, Tryz.ntmps34
  go_wp2_with (go_at_call 67; refine (newMem _).mono ?_)
  rintro e W1 ⟨m, b, rfl, hm, hb, hM, hB⟩
  have HA := Lib.hid (boxes_bin x w)
  have HM := Lib.hid hM
  have HB := Lib.hid hB
  have hml := hM.lt
  have hbl := hM.2.2.2.lt.1
  have hbs := hB.size
  clear hM hB
  go_wp2_with (fail)
  go_region_held3 (fun W' => W'.cell? ⟨w.heap.size, 0, none⟩ = some (.int .i64 0) ∧ W'.cell? ⟨w.heap.size, 1, none⟩ = some (.bool true) ∧ W'.cell? ⟨w.heap.size, 2, none⟩ = some (.bool false) ∧ W'.cell? ⟨w.heap.size, 3, none⟩ = some (.bool false) ∧ W'.cell? ⟨w.heap.size, 4, none⟩ = some (.int .i32 0) ∧ W'.cell? ⟨w.heap.size, 5, none⟩ = some (.int .i32 0) ∧ W'.cell? ⟨w.heap.size, 6, none⟩ = some (.int .i32 0) ∧ W'.cell? ⟨w.heap.size + 1, 0, none⟩ = some (.int .i64 8) ∧ W'.cell? ⟨w.heap.size + 1, 1, none⟩ = some (.int .i64 x) ∧ W'.cell? ⟨w.heap.size + 1, 2, none⟩ = some (.slice none 0 0) ∧ W'.cell? ⟨w.heap.size + 1, 3, none⟩ = some (.int .i64 0) ∧ W'.cell? ⟨w.heap.size + 1, 4, none⟩ = some (.int .i64 0) ∧ W'.cell? ⟨w.heap.size + 1, 5, none⟩ = some (.slice none 0 0) ∧ W'.cell? ⟨w.heap.size + 1, 6, none⟩ = some (.slice none 0 0)) (first | (exact HA.out _ HB.out) | (exact HA.out _ HB.out.drew) | (exact HA.out _ HB2.out) | (exact HA.out _ HB3.out) | assumption)
    (first
      | (go_at_call 69; refine (protocol_bin m b b 0 [] _ ?_).mono ?_; exact HM.out; rintro e W2 ⟨p, sc, rfl, hp, hP, hB2⟩; have HB2 := Lib.hid (HB.out.drew.trans (hB2.mono hbs)); have HM2 := Lib.hid (Mem.step (show Mem m b b 0 [] W1.drew from HM.out) (Step.ofBelow (S := []) hB2) (by simp) (by simp) (by simp)); have HP2 := Lib.hid hP; have hpl : W1.heap.size ≤ p := hp; clear hB2 hP hp)
      | (go_at_call 68; refine (put_bin_i32 p m b b (memV m) (.pointer none) sc [] x _ ?_ ?_ (by omega) (by omega) (by omega) h0 h1 (by simp)).mono ?_; exact HP2.out; exact HM2.out; rintro e W3 ⟨rfl, g1, sc1, hP, hM, hs⟩; have HB3 := Lib.hid (HB2.out.trans (hs.below _ HB2.out.size (by intro k hk; simp only [List.mem_cons, List.not_mem_nil, or_false] at hk; omega))); have HM3 := Lib.hid hM; have hg1 := hs.own g1 (by simp); clear hs hM hP))
  have cm3 := HM3.out.cell
  go_wp2_with (go_at_call 70; refine (buf_bytes b g1 _ _ HM3.out.2.2.2).mono ?_)
  rintro e W4 ⟨v, rfl, hv, n, rfl⟩
  go_wp2_with (go_at_call 57; refine (kind_nil _).mono ?_; rintro e w' ⟨rfl, rfl⟩)
  go_ret2
  have hB4 := below_drewN HB3.out n
  refine ⟨v, g1, rfl, ?_, by simpa using hv, ?_⟩
  · simp at hm hb hbs hpl
    rcases hg1 with hh | hh
    · simp only [List.mem_cons, List.not_mem_nil, or_false] at hh
      omega
    · have := HB2.out.size
      simp at this
      omega
  · exact (((Below.refl _ w).alloc (Nat.le_refl _) _).alloc (by simp) _).trans (hB4.mono (by simp <;> omega))

theorem boxes_cmp (x : Int) (w W' : World) (h : Below ((w.alloc (.cells #[.int .i64 1, .bool true, .bool false, .bool false, .int .i32 0, .int .i32 0, .int .i32 0] 37)).alloc (.cells #[.int .i64 8, .int .i64 x, .slice none 0 0, .int .i64 0, .int .i64 0, .slice none 0 0, .slice none 0 0] 57)).heap.size ((w.alloc (.cells #[.int .i64 1, .bool true, .bool false, .bool false, .int .i32 0, .int .i32 0, .int .i32 0] 37)).alloc (.cells #[.int .i64 8, .int .i64 x, .slice none 0 0, .int .i64 0, .int .i64 0, .slice none 0 0, .slice none 0 0] 57)) W') :
    W'.cell? ⟨w.heap.size, 0, none⟩ = some (.int .i64 1) ∧ W'.cell? ⟨w.heap.size, 1, none⟩ = some (.bool true) ∧ W'.cell? ⟨w.heap.size, 2, none⟩ = some (.bool false) ∧ W'.cell? ⟨w.heap.size, 3, none⟩ = some (.bool false) ∧ W'.cell? ⟨w.heap.size, 4, none⟩ = some (.int .i32 0) ∧ W'.cell? ⟨w.heap.size, 5, none⟩ = some (.int .i32 0) ∧ W'.cell? ⟨w.heap.size, 6, none⟩ = some (.int .i32 0) ∧ W'.cell? ⟨w.heap.size + 1, 0, none⟩ = some (.int .i64 8) ∧ W'.cell? ⟨w.heap.size + 1, 1, none⟩ = some (.int .i64 x) ∧ W'.cell? ⟨w.heap.size + 1, 2, none⟩ = some (.slice none 0 0) ∧ W'.cell? ⟨w.heap.size + 1, 3, none⟩ = some (.int .i64 0) ∧ W'.cell? ⟨w.heap.size + 1, 4, none⟩ = some (.int .i64 0) ∧ W'.cell? ⟨w.heap.size + 1, 5, none⟩ = some (.slice none 0 0) ∧ W'.cell? ⟨w.heap.size + 1, 6, none⟩ = some (.slice none 0 0) := by
  refine ⟨?_, ?_, ?_, ?_, ?_, ?_, ?_, ?_, ?_, ?_, ?_, ?_, ?_, ?_⟩ <;> (refine (World.cell?_of_block (h.block _ (by simp <;> omega))).trans ?_; simp)

set_option maxRecDepth 100000 in
set_option maxHeartbeats 8000000 in
theorem Put_cmp (x : Int) (w : World) (h0 : -2147483648 ≤ x) (h1 : x < 2147483648) :
    Calls Tryz.prog 34 #[confPlain 1, i32V x] w fun e w' => ∃ v k, e = .returned (.tuple #[v, .int .i64 0]) ∧ w.heap.size ≤ k ∧ IsB (Lib.byteCells (Lib.uvarint (Lib.zigzag x))) v k w' ∧ Below w.heap.size w w' := by
  go_enter Tryz.func34, Tryz.ntmps34
  go_wp2_with (go_at_call 67; refine (newMem _).mono ?_)
  rintro e W1 ⟨m, b, rfl, hm, hb, hM, hB⟩
  have HA := Lib.hid (boxes_cmp x w)
  have HM := Lib.hid hM
  have HB := Lib.hid hB
  have hml := hM.lt
  have hbl := hM.2.2.2.lt.1
  have hbs := hB.size
  clear hM hB
  go_wp2_with (fail)
  go_region_held3 (fun W' => W'.cell? ⟨w.heap.size, 0, none⟩ = some (.int .i64 1) ∧ W'.cell? ⟨w.heap.size, 1, none⟩ = some (.bool true) ∧ W'.cell? ⟨w.heap.size, 2, none⟩ = some (.bool false) ∧ W'.cell? ⟨w.heap.size, 3, none⟩ = some (.bool false) ∧ W'.cell? ⟨w.heap.size, 4, none⟩ = some (.int .i32 0) ∧ W'.cell? ⟨w.heap.size, 5, none⟩ = some (.int .i32 0) ∧ W'.cell? ⟨w.heap.size, 6, none⟩ = some (.int .i32 0) ∧ W'.cell? ⟨w.heap.size + 1, 0, none⟩ = some (.int .i64 8) ∧ W'.cell? ⟨w.heap.size + 1, 1, none⟩ = some (.int .i64 x) ∧ W'.cell? ⟨w.heap.size + 1, 2, none⟩ = some (.slice none 0 0) ∧ W'.cell? ⟨w.heap.size + 1, 3, none⟩ = some (.int .i64 0) ∧ W'.cell? ⟨w.heap.size + 1, 4, none⟩ = some (.int .i64 0) ∧ W'.cell? ⟨w.heap.size + 1, 5, none⟩ = some (.slice none 0 0) ∧ W'.cell? ⟨w.heap.size + 1, 6, none⟩ = some (.slice none 0 0)) (first | (exact HA.out _ HB.out) | (exact HA.out _ HB.out.drew) | (exact HA.out _ HB2.out) | (exact HA.out _ HB3.out) | assumption)
    (first
      | (go_at_call 69; refine (protocol_cmp m b b 0 [] _ ?_).mono ?_; exact HM.out; rintro e W2 ⟨p, sc, rfl, hp, hP, hB2⟩; have HB2 := Lib.hid (HB.out.drew.trans (hB2.mono hbs)); have HM2 := Lib.hid (Mem.step (show Mem m b b 0 [] W1.drew from HM.out) (Step.ofBelow (S := []) hB2) (by simp) (by simp) (by simp)); have HP2 := Lib.hid hP; have hpl : W1.heap.size ≤ p := hp; clear hB2 hP hp)
      | (go_at_call 68; refine (put_cmp_i32 p m b b (memV m) (.pointer none) CS0 sc [] x _ ?_ ?_ (by omega) (by omega) (by omega) h0 h1 (by simp)).mono ?_; exact HP2.out; exact HM2.out; rintro e W3 ⟨rfl, g1, sc1, hP, hM, hs⟩; have HB3 := Lib.hid (HB2.out.trans (hs.below _ HB2.out.size (by intro k hk; simp only [List.mem_cons, List.not_mem_nil, or_false] at hk; omega))); have HM3 := Lib.hid hM; have hg1 := hs.own g1 (by simp); clear hs hM hP))
  have cm3 := HM3.out.cell
  go_wp2_with (go_at_call 70; refine (buf_bytes b g1 _ _ HM3.out.2.2.2).mono ?_)
  rintro e W4 ⟨v, rfl, hv, n, rfl⟩
  go_wp2_with (go_at_call 57; refine (kind_nil _).mono ?_; rintro e w' ⟨rfl, rfl⟩)
  go_ret2
  have hB4 := below_drewN HB3.out n
  refine ⟨v, g1, rfl, ?_, by simpa using hv, ?_⟩
  · simp at hm hb hbs hpl
    rcases hg1 with hh | hh
    · simp only [List.mem_cons, List.not_mem_nil, or_false] at hh
      omega
    · have := HB2.out.size
      simp at this
      omega
  · exact (((Below.refl _ w).alloc (Nat.le_refl _) _).alloc (by simp) _).trans (hB4.mono (by simp <;> omega))

end Go.Proofs.YteadkokfepjgbaaGreatDoor

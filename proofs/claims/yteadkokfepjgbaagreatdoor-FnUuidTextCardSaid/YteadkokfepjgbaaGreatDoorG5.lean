/- A value of numbers of four bytes is got from given bytes by the binary protocol. -/
import Derived.Test.YteadkokfepjgbaaGreatDoorG4
namespace Go.Proofs.YteadkokfepjgbaaGreatDoor
open Go.RowKit Go.Deep
set_option linter.unusedVariables false
set_option linter.unusedSimpArgs false

theorem typ_any (x : Int) (w : World) (h0 : 0 ≤ x) (h1 : x < 256) : Calls Tryz.prog 72 #[.int .i64 x] w fun e w' => e = .returned (.int .u8 x) ∧ w = w' := by
  have hw : IntKind.u8.wrap x = x := by rw [IntKind.wrap_u8]; omega
  go_enter Tryz.func72, Tryz.ntmps72
  go_wp2
  go_ret
  exact ⟨rfl, rfl⟩

theorem gboxes (w W' : World) (h : Below ((w.alloc (.cells #[.int .i64 0, .bool true, .bool false, .bool false, .int .i32 0, .int .i32 0, .int .i32 0] 37)).alloc (.cells #[.int .i64 0, .int .i64 0, .slice none 0 0, .int .i64 0, .int .i64 0, .slice none 0 0, .slice none 0 0] 57)).heap.size ((w.alloc (.cells #[.int .i64 0, .bool true, .bool false, .bool false, .int .i32 0, .int .i32 0, .int .i32 0] 37)).alloc (.cells #[.int .i64 0, .int .i64 0, .slice none 0 0, .int .i64 0, .int .i64 0, .slice none 0 0, .slice none 0 0] 57)) W') :
    (W'.cell? ⟨w.heap.size, 0, none⟩ = some (.int .i64 0) ∧ W'.cell? ⟨w.heap.size, 1, none⟩ = some (.bool true) ∧ W'.cell? ⟨w.heap.size, 2, none⟩ = some (.bool false) ∧ W'.cell? ⟨w.heap.size, 3, none⟩ = some (.bool false) ∧ W'.cell? ⟨w.heap.size, 4, none⟩ = some (.int .i32 0) ∧ W'.cell? ⟨w.heap.size, 5, none⟩ = some (.int .i32 0) ∧ W'.cell? ⟨w.heap.size, 6, none⟩ = some (.int .i32 0)) ∧ W'.heap[w.heap.size + 1]? = some (.cells #[.int .i64 0, .int .i64 0, .slice none 0 0, .int .i64 0, .int .i64 0, .slice none 0 0, .slice none 0 0] 57) := by
  refine ⟨?_, (h.block _ (by simp)).trans (heap_alloc_at (by simp) _)⟩
  refine ⟨?_, ?_, ?_, ?_, ?_, ?_, ?_⟩ <;> (refine (World.cell?_of_block (h.block _ (by simp <;> omega))).trans ?_; simp)

set_option maxRecDepth 100000 in
set_option maxHeartbeats 4000000 in
theorem Get_bin (n c : Nat) (b0 b1 b2 b3 : UInt8) (l : List UInt8) (a : Addr) (w : World) (hn : l.length + 4 = n) (hal : a.block < w.heap.size) (hsrc : ∀ j v, (Lib.byteCells (b0 :: b1 :: b2 :: b3 :: l))[j]? = some v → w.cell? (a.add j) = some v) (hlim : n ≤ 140737488355328) :
    Calls Tryz.prog 35 #[confPlain 0, .int .i64 8, .slice (some a) n c, .int .i64 1] w fun e w' => e = .returned (.tuple #[i32V (wrap32 (Lib.beNat [b0, b1, b2, b3])), .int .i64 0, .int .i64 l.length]) ∧ Below w.heap.size w w' := by
  have hsrc1 : ∀ cc cd, ∀ j v, (Lib.byteCells (b0 :: b1 :: b2 :: b3 :: l))[j]? = some v → ((w.alloc cc).alloc cd).cell? (a.add j) = some v := fun cc cd j v hj => by
    have hal1 : (a.add j).block < w.heap.size := by rw [Lib.block_add]; exact hal
    rw [World.cell?_of_block (w := w) ((Below.heap_alloc _ _ _ (by simp; omega)).trans (Below.heap_alloc _ _ _ hal1))]; exact hsrc j v hj
  have HSR := Lib.hid hsrc1
  have HT := Lib.hid typ_any
  clear hsrc hsrc1
  go_enter Tryz.func35, Tryz.ntmps35
  go_wp2_with (fail)
  refine (holding_any n c (Lib.byteCells (b0 :: b1 :: b2 :: b3 :: l)) a _ (by simp [Lib.byteCells_length]; omega) (by simp; omega) (HSR.out _ _) (Lib.byteCells_one _) (by omega) hlim).mono ?_
  rintro e W1 ⟨m, b, g, rfl, hm, hb, hg, hM, hB⟩
  have HA := Lib.hid (gboxes w)
  have HM := Lib.hid hM
  have HB := Lib.hid hB
  have hml := hM.lt
  have hbl := hM.2.2.2.lt
  have hbs := hB.size
  clear hM hB
  obtain ⟨⟨q0, q1, q2, q3, q4, q5, q6⟩, _⟩ := HA.out _ HB.out
  go_wp2_with (fail)
  refine (protocol_bin m b g 0 _ _ HM.out).mono ?_
  rintro e W2 ⟨p, sc, rfl, hp, hP, hB2⟩
  have HB2 := Lib.hid (HB.out.trans (hB2.mono hbs))
  have HM2 := Lib.hid (Mem.step HM.out (Step.ofBelow (S := []) hB2) (by simp) (by simp) (by simp))
  have HP2 := Lib.hid hP
  have hpl : W1.heap.size ≤ p := hp
  clear hB2 hP hp q0 q1 q2 q3 q4 q5 q6
  go_wp2_with (go_at_call 72; refine (HT.out 8 _ (by omega) (by omega)).mono ?_; rintro e w' ⟨rfl, rfl⟩)
  go_outline
  refine (get_bin_i32 p m b g 0 (memV m) (.pointer none) sc b0 b1 b2 b3 l _ HP2.out HM2.out (by omega) (by omega) (by omega)).mono ?_
  rintro e W3 ⟨rfl, sc1, hP, hM, hs⟩
  have HB3 := Lib.hid (HB2.out.trans (hs.below _ HB2.out.size (by intro k hk; simp only [List.mem_cons, List.not_mem_nil, or_false] at hk; omega)))
  have HM3 := Lib.hid hM
  have cm := hM.cell
  clear hs hM hP
  have hr := (HA.out _ HB3.out).2
  have r0 : W3.cell? ⟨w.heap.size + 1, 0, none⟩ = some (.int .i64 0) := (cell_heap hr _).trans rfl
  have r1 : W3.cell? ⟨w.heap.size + 1, 1, none⟩ = some (.int .i64 0) := (cell_heap hr _).trans rfl
  have r2 : W3.cell? ⟨w.heap.size + 1, 2, none⟩ = some (.slice none 0 0) := (cell_heap hr _).trans rfl
  have r3 : W3.cell? ⟨w.heap.size + 1, 3, none⟩ = some (.int .i64 0) := (cell_heap hr _).trans rfl
  have r4 : W3.cell? ⟨w.heap.size + 1, 4, none⟩ = some (.int .i64 0) := (cell_heap hr _).trans rfl
  have r5 : W3.cell? ⟨w.heap.size + 1, 5, none⟩ = some (.slice none 0 0) := (cell_heap hr _).trans rfl
  have r6 : W3.cell? ⟨w.heap.size + 1, 6, none⟩ = some (.slice none 0 0) := (cell_heap hr _).trans rfl
  have fr := frozen_heap hr
  have hrl : w.heap.size + 1 < W3.heap.size := lt_heap hr
  have hmne : ¬ m = w.heap.size + 1 := by have hm' := hm; simp at hm'; omega
  have hml3 : m < W3.heap.size := HM3.out.lt
  have HU := Lib.hid (show ∀ cc, Buf b g (0 + 4) (Lib.byteCells l) (W3.alloc cc).drew from fun cc => ((HM3.out.alloc cc).2.2.2).drew)
  clear hr
  go_wp2_with (fail)
  go_region_held3 (fun W' => W'.cell? ⟨m, 0, none⟩ = some (.pointer (some ⟨b, 0, none⟩)) ∧ W'.cell? ⟨W3.heap.size, 0, none⟩ = some (.int .i64 8) ∧ W'.cell? ⟨W3.heap.size, 1, none⟩ = some (.int .i64 (wrap32 (Lib.beNat [b0, b1, b2, b3]))) ∧ W'.cell? ⟨W3.heap.size, 2, none⟩ = some (.slice none 0 0) ∧ W'.cell? ⟨W3.heap.size, 3, none⟩ = some (.int .i64 0) ∧ W'.cell? ⟨W3.heap.size, 4, none⟩ = some (.int .i64 0) ∧ W'.cell? ⟨W3.heap.size, 5, none⟩ = some (.slice none 0 0) ∧ W'.cell? ⟨W3.heap.size, 6, none⟩ = some (.slice none 0 0)) (simp [go_sem, *]) 
    (first
      | (go_at_call 57; refine (kind_nil _).mono ?_; rintro e w' ⟨rfl, rfl⟩)
      | (go_at_call 58; refine (buf_left b g (0 + 4) (Lib.byteCells l) _ ?_).mono ?_; exact HU.out _; rintro e w' ⟨rfl, nn, rfl⟩))
  go_wp2_with (fail)
  refine bodyPost_ret (v := .tuple #[i32V (wrap32 (Lib.beNat [b0, b1, b2, b3])), .int .i64 0, .int .i64 l.length]) (by simp [results, Tryz.results35, go_sem, Lib.byteCells_length, *]) rfl ?_
  have hB0 := ((Below.refl _ w).alloc (Nat.le_refl _) (.cells #[.int .i64 0, .bool true, .bool false, .bool false, .int .i32 0, .int .i32 0, .int .i32 0] 37)).alloc (by simp) (.cells #[.int .i64 0, .int .i64 0, .slice none 0 0, .int .i64 0, .int .i64 0, .slice none 0 0, .slice none 0 0] 57)
  refine ⟨rfl, ?_⟩
  refine hB0.trans (Below.trans (HB3.out.mono (by simp <;> omega)) ?_)
  have hb3 : Below w.heap.size W3 W3 := Below.refl _ _
  repeat (first | (with_reducible exact hb3) | (with_reducible refine Below.drew ?_) | (with_reducible refine below_drewN ?_ _) | (with_reducible refine Below.setCell ?_ (by simp <;> omega) _) | (with_reducible refine Below.alloc ?_ (by omega) _))

end Go.Proofs.YteadkokfepjgbaaGreatDoor

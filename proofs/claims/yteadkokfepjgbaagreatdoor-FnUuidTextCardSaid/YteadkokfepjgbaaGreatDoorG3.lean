/- A value of numbers of four bytes is got by the binary protocol. -/
import Derived.Test.YteadkokfepjgbaaGreatDoorG2
namespace Go.Proofs.YteadkokfepjgbaaGreatDoor
open Go.RowKit Go.Deep
set_option linter.unusedVariables false
set_option linter.unusedSimpArgs false

theorem bin_m_ReadI32 (k p : Nat) (w : World) : (method (k + 1) 184 (.pointer (some ⟨p, 0, none⟩)) "ReadI32").run Tryz.prog w = .ok (238, .pointer (some ⟨p, 0, none⟩)) w := by kernel_rfl
theorem bin_n_ReadI32 (k p : Nat) (w : World) : (nilAhead (k + 1) 184 (.pointer (some ⟨p, 0, none⟩)) "ReadI32").run Tryz.prog w = .ok (some false) w := by kernel_rfl

/-- What was read, where it is a number; a step that reads one number. -/
abbrev gotN (n : Int) : Value := .agg #[.int .i64 0, .int .i64 0, .int .i64 0, .int .i64 0, .int .i64 0, .int .i64 n, .slice none 0 0]
abbrev stepV (k : Int) : Value := .agg #[.int .i64 k, .int .i64 0, .int .i64 0, .int .i64 0, .int .i64 0, .int .i64 0, .slice none 0 0]

set_option maxRecDepth 100000 in
set_option maxHeartbeats 4000000 in
theorem read_bin_i32 (p m b g off : Nat) (og cf : Value) (sc : List Value) (b0 b1 b2 b3 : UInt8) (l : List UInt8) (w : World) (hp : Bin p (memV m) og cf sc w) (h : Mem m b g off (Lib.byteCells (b0 :: b1 :: b2 :: b3 :: l)) w) (hpm : p ≠ m) (hpb : p ≠ b) (hpg : p ≠ g) :
    Calls Tryz.prog 89 #[binV p, stepV 16] w fun e w' => e = .returned (.tuple #[gotN (wrap32 (Lib.beNat [b0, b1, b2, b3])), .nilIface]) ∧
      ∃ sc1, Bin p (memV m) og cf sc1 w' ∧ Mem m b g (off + 4) (Lib.byteCells l) w' ∧ Step [b, p] [b, p] w w' := by
  have hmeth := bin_m_ReadI32
  have hnil := bin_n_ReadI32
  have ha : ∀ c d, Bin p (memV m) og cf sc ((w.alloc c).alloc d).drew := fun c d => Bin.drewN ((hp.alloc c).alloc d) 1
  have hb : ∀ c d, Mem m b g off (Lib.byteCells (b0 :: b1 :: b2 :: b3 :: l)) ((w.alloc c).alloc d).drew := fun c d => Mem.drewN ((h.alloc c).alloc d) 1
  have hs : ∀ c d, Step [b, p] [b, p] w ((w.alloc c).alloc d).drew := fun c d => (((Step.refl _ _).alloc c).alloc d).drew
  have hpl := hp.lt
  have hbl := h.2.2.2.lt.1
  have hwr : IntKind.i64.wrap (wrap32 (Lib.beNat [b0, b1, b2, b3])) = wrap32 (Lib.beNat [b0, b1, b2, b3]) := by
    rw [IntKind.wrap_i64]; unfold wrap32; omega
  have HML := Lib.hid h.lt
  have HGL := Lib.hid h.2.2.2.lt.2
  have HA := Lib.hid ha
  have HM := Lib.hid hb
  have HS := Lib.hid hs
  clear ha hb hs
  go_enter Tryz.func89, Tryz.ntmps89
  go_wp2_with (fail)
  go_region_held3 (fun _ => True) (trivial)
    (first
      | (go_at_call 84; refine (ctx_any _).mono ?_; rintro e w' ⟨rfl, rfl⟩)
      | (go_at_call 238; refine (bin_readI32 p m b g off og cf sc b0 b1 b2 b3 l _ ?_ ?_ hpm hpb hpg).mono ?_; exact HA.out _ _; exact HM.out _ _; rintro e W1 ⟨rfl, sc1, hP, hM, hs⟩; have hbx := (hs.block (w.heap.size + 1) (by simp) (by simp; omega)).trans (heap_alloc_at (by simp) _); have c0 : W1.cell? ⟨w.heap.size + 1, 0, none⟩ = some (.int .i64 0) := (cell_heap hbx _).trans rfl; have c1 : W1.cell? ⟨w.heap.size + 1, 1, none⟩ = some (.int .i64 0) := (cell_heap hbx _).trans rfl; have c2 : W1.cell? ⟨w.heap.size + 1, 2, none⟩ = some (.int .i64 0) := (cell_heap hbx _).trans rfl; have c3 : W1.cell? ⟨w.heap.size + 1, 3, none⟩ = some (.int .i64 0) := (cell_heap hbx _).trans rfl; have c4 : W1.cell? ⟨w.heap.size + 1, 4, none⟩ = some (.int .i64 0) := (cell_heap hbx _).trans rfl; have c5 : W1.cell? ⟨w.heap.size + 1, 5, none⟩ = some (.int .i64 0) := (cell_heap hbx _).trans rfl; have c6 : W1.cell? ⟨w.heap.size + 1, 6, none⟩ = some (.slice none 0 0) := (cell_heap hbx _).trans rfl; have hfz := frozen_heap hbx; have HP1 := Lib.hid hP; have HM1 := Lib.hid hM; have HS1 := Lib.hid ((HS.out _ _).trans hs); clear hP hM hs hbx))
  all_goals go_wp2_with (fail)
  all_goals (
    have hml := HML.out
    have hgl := HGL.out
    refine bodyPost_ret (v := .tuple #[gotN (wrap32 (Lib.beNat [b0, b1, b2, b3])), .nilIface]) (by simp [results, Tryz.results89, go_sem, *]) rfl ?_
    refine ⟨rfl, sc1, HP1.out.step (S := [w.heap.size + 1]) (T := [w.heap.size + 1]) ?_ (by simp; omega), HM1.out.step (S := [w.heap.size + 1]) (T := [w.heap.size + 1]) ?_ (by simp; omega) (by simp; omega) (by simp; omega), ?_⟩
    · iterate 7 refine Step.setCell ?_ (.inl (by simp)) _
      exact Step.refl _ _
    · iterate 7 refine Step.setCell ?_ (.inl (by simp)) _
      exact Step.refl _ _
    · iterate 7 refine Step.setCell ?_ (.inr (by simp)) _
      exact HS1.out)

end Go.Proofs.YteadkokfepjgbaaGreatDoor

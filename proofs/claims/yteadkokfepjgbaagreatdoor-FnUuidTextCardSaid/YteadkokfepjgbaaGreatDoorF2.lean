/- A value of the type of numbers of four bytes is put by each protocol. -/
import Derived.Test.YteadkokfepjgbaaGreatDoorF1
namespace Go.Proofs.YteadkokfepjgbaaGreatDoor
open Go.RowKit Go.Deep
set_option linter.unusedVariables false
set_option linter.unusedSimpArgs false

set_option maxRecDepth 100000 in
set_option maxHeartbeats 4000000 in
theorem put_bin_i32 (p m b g : Nat) (og cf : Value) (sc : List Value) (l : List UInt8) (x : Int) (w : World) (hp : Bin p (memV m) og cf sc w) (h : Mem m b g 0 (Lib.byteCells l) w) (hpm : p ≠ m) (hpb : p ≠ b) (hpg : p ≠ g) (h0 : -2147483648 ≤ x) (h1 : x < 2147483648)
    (hlim : l.length + 4 ≤ 140737488355328) :
    Calls Tryz.prog 68 #[binV p, i32V x] w fun e w' => e = .returned .nilIface ∧ ∃ g1 sc1, Bin p (memV m) og cf sc1 w' ∧ Mem m b g1 0 (Lib.byteCells (l ++ Lib.beBytes 4 (x % 4294967296).toNat)) w' ∧ Step [p, b, g] [p, b, g1] w w' := by
  have hmeth := bin_m_WriteI32
  have hnil := bin_n_WriteI32
  have hc := ctx_any
  have ha : ∀ c, Bin p (memV m) og cf sc (w.alloc c).drew := fun c => Bin.drewN (hp.alloc c) 1
  have hb : ∀ c, Mem m b g 0 (Lib.byteCells l) (w.alloc c).drew := fun c => Mem.drewN (h.alloc c) 1
  have hs0 : ∀ c, Step [p, b, g] [p, b, g] w (w.alloc c).drew := fun c => ((Step.refl _ _).alloc c).drew
  have hpl := hp.lt
  have hbl := h.2.2.2.lt
  have HA := Lib.hid ha
  have HB := Lib.hid hb
  have HS := Lib.hid hs0
  have HL := Lib.hid (show (Lib.byteCells l).length + 4 ≤ 140737488355328 by simp only [Lib.byteCells_length]; omega)
  have hwrap : IntKind.i32.wrap x = x := by rw [IntKind.wrap_i32]; omega
  clear ha hb hs0
  go_enter Tryz.func68, Tryz.ntmps68
  go_wp2_with (first | (go_at_call 72; go_in))
  go_region_held3 (fun W' => W'.cell? ⟨w.heap.size, 1, none⟩ = some (.int .i64 x)) (first | assumption | (simp [go_sem]))
    (first
      | (go_at_call 84; refine (hc _).mono ?_; rintro e w' ⟨rfl, rfl⟩)
      | (go_at_call 263; refine (bin_writeI32 p m b g og cf sc (Lib.byteCells l) ctxV x _ ?_ ?_ hpm hpb hpg (Lib.byteCells_one _) HL.out).mono ?_; exact HA.out _; exact HB.out _; rintro e W1 ⟨rfl, g1, sc1, hP, hM, hs⟩; have hx1 := (hs.cell (p := ⟨w.heap.size, 1, none⟩) (by simp) (by simp; omega)).trans (cell_heap (heap_alloc_new _ _) 1)))
  all_goals go_wp2
  all_goals go_ret
  all_goals (
    refine ⟨rfl, g1, sc1, hP, ?_, (HS.out _).trans (hs.more (by simp) ?_)⟩
    · rw [Lib.byteCells_append]; exact hM
    · intro k hk
      simp only [List.mem_cons, List.not_mem_nil, or_false] at hk ⊢
      omega)

end Go.Proofs.YteadkokfepjgbaaGreatDoor

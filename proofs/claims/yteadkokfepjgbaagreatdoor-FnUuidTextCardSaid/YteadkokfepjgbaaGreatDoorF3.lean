/- The same by the compact protocol. -/
import Derived.Test.YteadkokfepjgbaaGreatDoorF1
namespace Go.Proofs.YteadkokfepjgbaaGreatDoor
open Go.RowKit Go.Deep
set_option linter.unusedVariables false
set_option linter.unusedSimpArgs false

set_option maxRecDepth 100000 in
set_option maxHeartbeats 4000000 in
theorem put_cmp_i32 (p m b g : Nat) (og cf : Value) (s : CS) (sc : List Value) (l : List UInt8) (x : Int) (w : World) (hp : Cmp p (memV m) og cf s sc w) (h : Mem m b g 0 (Lib.byteCells l) w) (hpm : p ≠ m) (hpb : p ≠ b) (hpg : p ≠ g) (h0 : -2147483648 ≤ x) (h1 : x < 2147483648)
    (hlim : l.length + 5 ≤ 140737488355328) :
    Calls Tryz.prog 68 #[cmpV p, i32V x] w fun e w' => e = .returned .nilIface ∧ ∃ g1 sc1, Cmp p (memV m) og cf s sc1 w' ∧ Mem m b g1 0 (Lib.byteCells (l ++ Lib.uvarint (Lib.zigzag x))) w' ∧ Step [p, b, g] [p, b, g1] w w' := by
  have hmeth := cmp_m_WriteI32
  have hnil := cmp_n_WriteI32
  have hc := ctx_any
  have ha : ∀ c, Cmp p (memV m) og cf s sc (w.alloc c).drew := fun c => Cmp.drewN (hp.alloc c) 1
  have hb : ∀ c, Mem m b g 0 (Lib.byteCells l) (w.alloc c).drew := fun c => Mem.drewN (h.alloc c) 1
  have hs0 : ∀ c, Step [p, b, g] [p, b, g] w (w.alloc c).drew := fun c => ((Step.refl _ _).alloc c).drew
  have hpl := hp.lt
  have hbl := h.2.2.2.lt
  have HA := Lib.hid ha
  have HB := Lib.hid hb
  have HS := Lib.hid hs0
  have hwrap : IntKind.i32.wrap x = x := by rw [IntKind.wrap_i32]; omega
  clear ha hb hs0
  go_enter Tryz.func68, Tryz.ntmps68
  go_wp2_with (first | (go_at_call 72; go_in))
  go_region_held3 (fun W' => W'.cell? ⟨w.heap.size, 1, none⟩ = some (.int .i64 x)) (first | assumption | (simp [go_sem]))
    (first
      | (go_at_call 84; refine (hc _).mono ?_; rintro e w' ⟨rfl, rfl⟩)
      | (go_at_call 172; refine (cmp_writeI32 p m b g og cf s sc l ctxV x _ ?_ ?_ hpm hpb hpg h0 h1 hlim).mono ?_; exact HA.out _; exact HB.out _; rintro e W1 ⟨rfl, g1, sc1, hP, hM, hs⟩; have hx1 := (hs.cell (p := ⟨w.heap.size, 1, none⟩) (by simp) (by simp; omega)).trans (cell_heap (heap_alloc_new _ _) 1)))
  all_goals go_wp2
  all_goals go_ret
  all_goals (
    refine ⟨rfl, g1, sc1, hP, ?_, (HS.out _).trans (hs.more (by simp) ?_)⟩
    · exact hM
    · intro k hk
      simp only [List.mem_cons, List.not_mem_nil, or_false] at hk ⊢
      omega)

end Go.Proofs.YteadkokfepjgbaaGreatDoor

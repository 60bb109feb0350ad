/- A new memory buffer; one that holds given bytes; a value of numbers of four bytes put by a protocol over a new memory buffer. -/
import Derived.Test.YteadkokfepjgbaaGreatDoorF2
import Derived.Test.YteadkokfepjgbaaGreatDoorF3
namespace Go.Proofs.YteadkokfepjgbaaGreatDoor
open Go.RowKit Go.Deep
set_option linter.unusedVariables false
set_option linter.unusedSimpArgs false

theorem below_drewN {B : Nat} {a w : World} (h : Below B a w) (n : Nat) : Below B a (w.drewN n) := ⟨h.os, h.tape, h.output, h.size, h.block⟩

theorem kind_nil (w : World) : Calls Tryz.prog 57 #[.nilIface] w fun e w' => e = .returned (.int .i64 0) ∧ w = w' := by
  go_enter Tryz.func57, Tryz.ntmps57
  go_wp2
  go_ret
  exact ⟨rfl, rfl⟩

theorem newMem (w : World) : Calls Tryz.prog 67 #[] w fun e w' => ∃ m b, e = .returned (.pointer (some ⟨m, 0, none⟩)) ∧ w.heap.size ≤ m ∧ w.heap.size ≤ b ∧ Mem m b b 0 [] w' ∧ Below w.heap.size w w' := by
  go_enter Tryz.func67, Tryz.ntmps67
  go_wp2
  go_ret
  refine ⟨w.heap.size + 1, w.heap.size, rfl, by omega, by omega, ⟨⟨0, ?_⟩, by omega, by omega, 0, .inl ⟨?_, rfl, rfl, rfl⟩⟩, ?_⟩
  · exact heap_alloc_at (by simp) _
  · exact heap_alloc_old (heap_alloc_new _ _) _
  · exact ((Below.refl _ _).alloc (by simp) _).alloc (by simp <;> omega) _

set_option maxRecDepth 100000 in
set_option maxHeartbeats 4000000 in
theorem holding_any (n c : Nat) (cs : List Value) (a : Addr) (w : World) (hn : cs.length = n) (hal : a.block < w.heap.size) (hsrc : ∀ j v, cs[j]? = some v → w.cell? (a.add j) = some v) (h1c : ∀ v ∈ cs, v.oneCell' = true) (hn1 : 1 ≤ n) (hlim : n ≤ 140737488355328) :
    Calls Tryz.prog 54 #[.slice (some a) n c] w fun e w' => ∃ m b g, e = .returned (.pointer (some ⟨m, 0, none⟩)) ∧ w.heap.size ≤ m ∧ w.heap.size ≤ b ∧ w.heap.size ≤ g ∧ Mem m b g 0 cs w' ∧ Below w.heap.size w w' := by
  go_enter Tryz.func54, Tryz.ntmps54
  go_wp2_with (go_at_call 67; refine (newMem _).mono ?_)
  rintro e W1 ⟨m, b, rfl, hm, hb, hM, hB⟩
  have cm := hM.cell
  have hsrc1 : ∀ j v, cs[j]? = some v → W1.cell? (a.add j) = some v := fun j v hj => (World.cell?_of_block (w := w) (a := a.add j) (hB.block _ (by rw [Lib.block_add]; exact hal))).trans (hsrc j v hj)
  have HS := Lib.hid hsrc1
  have hbk := hB.size
  clear hsrc hsrc1
  go_wp2_with (go_at_call 76; refine (buf_write b b n c [] cs a _ hM.2.2.2 (by simp) hn (by omega) (by omega) (by omega) HS.out h1c hn1 (by simpa using hlim)).mono ?_)
  rintro e W2 ⟨rfl, g1, hU, hs⟩
  go_wp2
  go_ret
  refine ⟨m, b, g1, rfl, hm, hb, ?_, by simpa using hM.turn hU hs, hB.trans (hs.below _ hbk (by simp [hb]))⟩
  rcases hs.own g1 (by simp) with hh | hh
  · simp only [List.mem_cons, List.not_mem_nil, or_false, or_self] at hh
    omega
  · omega

end Go.Proofs.YteadkokfepjgbaaGreatDoor

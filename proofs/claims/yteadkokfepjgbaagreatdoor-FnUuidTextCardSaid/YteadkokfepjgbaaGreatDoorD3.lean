/- The binary protocol over a memory buffer: a number of four bytes is read, where they are there. -/
import Derived.Test.YteadkokfepjgbaaGreatDoorD2
namespace Go.Proofs.YteadkokfepjgbaaGreatDoor
open Go.RowKit Go.Deep
set_option linter.unusedVariables false
set_option linter.unusedSimpArgs false

/-- The scratch behind a reading into its first bytes. -/
theorem Bin.filled {p n : Nat} {tr og cf : Value} {sc bs : List Value} {w w1 : World} (h : Bin p tr og cf sc w) (hn : n ≤ 64) (hb : n ≤ bs.length) (h1 : ∀ v ∈ bs, v.oneCell' = true)
    (hw : w1.heap[p]? = some (.cells ((tr :: og :: cf :: sc).take 3 ++ bs.take n ++ (tr :: og :: cf :: sc).drop (3 + n)).toArray 210 (0, 0))) : Bin p tr og cf (bs.take n ++ sc.drop n) w1 := by
  refine ⟨?_, ?_, fun v hv => ?_⟩
  · rw [hw]
    congr 3
    simp [Nat.add_comm 3]
  · have := h.2.1
    simp; omega
  · rcases List.mem_append.1 hv with hv | hv
    · exact h1 v (List.mem_of_mem_take hv)
    · exact h.2.2 v (List.mem_of_mem_drop hv)

set_option maxRecDepth 100000 in
set_option maxHeartbeats 1000000 in
theorem bin_readI32 (p m b g off : Nat) (og cf : Value) (sc : List Value) (b0 b1 b2 b3 : UInt8) (l : List UInt8) (w : World) (hp : Bin p (memV m) og cf sc w) (h : Mem m b g off (Lib.byteCells (b0 :: b1 :: b2 :: b3 :: l)) w) (hpm : p ≠ m) (hpb : p ≠ b) (hpg : p ≠ g) :
    Calls Tryz.prog 238 #[.pointer (some ⟨p, 0, none⟩), ctxV] w fun e w' => e = .returned (.tuple #[.int .i32 (wrap32 (Lib.beNat [b0, b1, b2, b3])), .nilIface]) ∧
      ∃ sc1, Bin p (memV m) og cf sc1 w' ∧ Mem m b g (off + 4) (Lib.byteCells l) w' ∧ Step [b, p] [b, p] w w' := by
  have hR := readAll_whole p m b g off 3 4 64 og cf sc (Lib.byteCells (b0 :: b1 :: b2 :: b3 :: l)) w hp h hpm hpb hpg (by omega) (by simp [Lib.byteCells_length]) (Lib.byteCells_one _) (by omega) (by omega) (by omega) (by omega)
  have HR := Lib.hid hR
  clear hR
  go_enter Tryz.func238, Tryz.ntmps238
  go_wp2_with fail
  refine HR.out.mono ?_
  rintro e W1 ⟨rfl, hM, hpp, hs⟩
  have hB := hp.filled (bs := Lib.byteCells (b0 :: b1 :: b2 :: b3 :: l)) (n := 4) (by omega) (by simp [Lib.byteCells_length]) (Lib.byteCells_one _) hpp
  have hM' : Mem m b g (off + 4) (Lib.byteCells l) W1 := hM
  have d0 : W1.cell? ⟨p, 3, none⟩ = some (.int .u8 b0.toNat) := by rw [hB.cells]; rfl
  have d1 : W1.cell? ⟨p, 4, none⟩ = some (.int .u8 b1.toNat) := by rw [hB.cells]; rfl
  have d2 : W1.cell? ⟨p, 5, none⟩ = some (.int .u8 b2.toNat) := by rw [hB.cells]; rfl
  have d3 : W1.cell? ⟨p, 6, none⟩ = some (.int .u8 b3.toNat) := by rw [hB.cells]; rfl
  have HB := Lib.hid hB
  clear HR hM hpp hB
  go_wp2_with fail
  refine (Tryz.binary_BE_Uint32 p 3 4 64 b0 b1 b2 b3 _ (Nat.le_refl _) d0 d1 d2 d3).mono ?_
  rintro e W2 ⟨rfl, hb⟩
  have hs2 : Step [b, p] [b, p] w W2 := hs.trans (Step.ofBelow hb)
  have hM2 : Mem m b g (off + 4) (Lib.byteCells l) W2 := hM'.step (Step.ofBelow (S := []) hb) (by simp) (by simp) (by simp)
  have hB2 := HB.out.step (Step.ofBelow (S := []) hb) (by simp)
  clear d0 d1 d2 d3
  go_wp2
  go_ret2
  exact ⟨rfl, _, hB2, hM2, hs2⟩

end Go.Proofs.YteadkokfepjgbaaGreatDoor

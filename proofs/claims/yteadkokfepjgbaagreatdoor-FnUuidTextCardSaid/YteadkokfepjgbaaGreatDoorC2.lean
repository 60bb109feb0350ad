/- The binary protocol over a memory buffer: numbers of two, four and eight bytes are written. -/
import Derived.Test.YteadkokfepjgbaaGreatDoorC1
namespace Go.Proofs.YteadkokfepjgbaaGreatDoor
open Go.RowKit Go.Deep
set_option linter.unusedVariables false
set_option linter.unusedSimpArgs false

set_option maxRecDepth 100000 in
set_option maxHeartbeats 1000000 in
theorem bin_writeI32 (p m b g : Nat) (og cf : Value) (sc bs : List Value) (cx : Value) (x : Int) (w : World) (hp : Bin p (memV m) og cf sc w) (h : Mem m b g 0 bs w) (hpm : p ≠ m) (hpb : p ≠ b) (hpg : p ≠ g) (h1 : ∀ v ∈ bs, v.oneCell' = true) (hlim : bs.length + 4 ≤ 140737488355328) :
    Calls Tryz.prog 263 #[.pointer (some ⟨p, 0, none⟩), cx, .int .i32 x] w fun e w' => e = .returned .nilIface ∧
      ∃ g1 sc1, Bin p (memV m) og cf sc1 w' ∧ Mem m b g1 0 (bs ++ Lib.byteCells (Lib.beBytes 4 (x % 4294967296).toNat)) w' ∧ Step [p, b, g] [p, b, g1] w w' := by
  have c0 : w.cell? ⟨p, 0, none⟩ = some (memV m) := by rw [hp.cells]; rfl
  have cm := h.cell
  have hmeth := mem_Write
  obtain ⟨v, hv⟩ : ∃ v : Nat, x % 4294967296 = v := ⟨(x % 4294967296).toNat, by omega⟩
  have hv32 : v < 4294967296 := by omega
  have hvt : (x % 4294967296).toNat = v := by omega
  rw [hvt]
  obtain ⟨x0, d0, f0⟩ := hp.cell 0 (by omega)
  obtain ⟨x1, d1, f1⟩ := hp.cell 1 (by omega)
  obtain ⟨x2, d2, f2⟩ := hp.cell 2 (by omega)
  obtain ⟨x3, d3, f3⟩ := hp.cell 3 (by omega)
  simp only [Nat.reduceAdd] at d0 f0 d1 f1 d2 f2 d3 f3
  go_enter Tryz.func263, Tryz.ntmps263
  go_wp2_with (go_at_call 284; refine (Tryz.binary_BE_PutUint32 p 3 4 64 v hv32 x0 x1 x2 x3 _ (Nat.le_refl _) d0 d1 d2 d3 f0 f1 f2 f3).mono ?_)
  rintro e W1 ⟨rfl, hW1⟩
  have hbl : (Lib.byteCells (Lib.beBytes 4 v)).length = 4 := by simp [Lib.byteCells_length, Lib.beBytes_length]
  obtain ⟨sc1, hp1, hsc⟩ := (hp.alloc (.cells #[] 335)).set (Lib.byteCells (Lib.beBytes 4 v)) (by omega) (Lib.byteCells_one _)
  rw [← hW1] at hp1
  have hs1 : Step [p, b, g] [p, b, g] w W1 := by rw [hW1]; exact ((Step.refl _ _).alloc _).setCells (.inl (by simp)) _ _
  have h2 : Mem m b g 0 bs W1 := by
    rw [hW1]
    have ha := h.alloc (.cells #[] 335)
    exact ha.carry (heap_setCells_other (Ne.symm hpm) _ _) (heap_setCells_other (Ne.symm hpb) _ _) (heap_setCells_other (Ne.symm hpg) _ _)
  clear hW1
  have c0' : W1.cell? ⟨p, 0, none⟩ = some (memV m) := by rw [hp1.cells]; rfl
  have cm' := h2.cell
  have hsrc : ∀ j v', (Lib.byteCells (Lib.beBytes 4 v))[j]? = some v' → W1.cell? ((⟨p, 3, none⟩ : Addr).add j) = some v' := fun j v' hj => by
    rw [Lib.addr_add, hp1.cells, Nat.add_comm]
    simp only [List.getElem?_cons_succ]
    rw [← hsc, List.getElem?_take] at hj
    split at hj
    · exact hj
    · cases hj
  have HS := Lib.hid hsrc
  have HL := Lib.hid hbl
  have HC := Lib.hid hsc
  clear hsrc hbl hsc c0 cm d0 d1 d2 d3 f0 f1 f2 f3 hv hvt
  go_wp2_with (go_at_call 76; refine (buf_write b g 4 64 bs _ ⟨p, 3, none⟩ _ h2.2.2.2 h1 HL.out hpb hpg hp1.lt HS.out (Lib.byteCells_one _) (by omega) hlim).mono ?_)
  rintro e W2 ⟨rfl, g1, hB, hs⟩
  go_wp2
  go_ret
  refine ⟨rfl, g1, sc1, hp1.step hs (by simp [hpb, hpg]), h2.turn hB hs, hs1.trans (hs.more (by simp) ?_)⟩
  intro k hk
  simp only [List.mem_cons, List.not_mem_nil, or_false] at hk ⊢
  omega

end Go.Proofs.YteadkokfepjgbaaGreatDoor

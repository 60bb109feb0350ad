/- The walk of the law FnUuidText. -/
import Derived.Test.YteadkokfepjgbaaGreatDoorJ5
import Derived.ProofKit
namespace Go.Proofs.YteadkokfepjgbaaGreatDoor
open Go.RowKit Go.Deep
set_option linter.unusedVariables false
set_option linter.unusedSimpArgs false

/-- A slice of numbers that came in: nil, or a row of cells. -/
def IsRow (k : IntKind) (w : World) (a : Option Addr) (len cap : Nat) (zs : List Int) : Prop :=
  (a = none ∧ len = 0 ∧ cap = 0 ∧ zs = []) ∨
  ∃ x, a = some x ∧ len ≤ cap ∧ cap ≤ maxLen ∧ zs.length = cap ∧ (∀ i, i < zs.length → w.cell? (x.add i) = some (.int k (zs.getD i 0))) ∧ ∀ n ∈ zs, (Lit.int k n).wf = true

theorem holds_of {w : World} {a : Option Addr} {len cap : Nat} {zs : List Int} (h : IsRow .u8 w a len cap zs) : ∃ l, Holds w a len l := by
  rcases h with ⟨rfl, rfl, _, _⟩ | ⟨x, rfl, hl, hm, hz, hc, hw⟩
  · exact ⟨[], rfl, .inl rfl⟩
  · refine ⟨(zs.take len).map (fun n => UInt8.ofNat n.toNat), by simp; omega, ?_⟩
    rcases Nat.eq_zero_or_pos len with h0 | hp
    · exact .inl h0
    · refine .inr ⟨x, rfl, ?_, fun j v hj => ?_⟩
      · have := World.block_lt_of_cell? w _ (hc 0 (by omega))
        rwa [Lib.block_add] at this
      · simp only [Lib.byteCells, List.map_map, List.getElem?_map, List.getElem?_take] at hj
        by_cases hjl : j < len
        · rw [if_pos hjl] at hj
          have hlt : j < zs.length := by omega
          rw [List.getElem?_eq_getElem hlt] at hj
          rw [hc j hlt, List.getD_eq_getElem?_getD, List.getElem?_eq_getElem hlt]
          have hwf := hw zs[j] (List.getElem_mem hlt)
          have hr : 0 ≤ zs[j] ∧ zs[j] < 256 := by
            have h1 : IntKind.u8.min ≤ zs[j] ∧ zs[j] ≤ IntKind.u8.max := by simpa [Lit.wf] using hwf
            have e1 : IntKind.u8.min = 0 := by decide
            have e2 : IntKind.u8.max = 255 := by decide
            omega
          rw [← hj]
          simp
          omega
        · rw [if_neg hjl] at hj
          cases hj

set_option maxRecDepth 100000 in
set_option maxHeartbeats 1000000 in
theorem fnUuidText_walk (a : Option Addr) (len cap : Nat) (zs : List Int) (w : World) (h : IsRow .u8 w a len cap zs) :
    Calls Tryz.prog 7 #[.slice a len cap] w fun e w' => e = .returned (.bool true) ∧ Below w.heap.size w w' := by
  have hk := Lib.hid known_any
  obtain ⟨l, hH⟩ := holds_of h
  by_cases h1 : 2147483647 < len
  · go_enter Tryz.func7, Tryz.ntmps7
    go_wp2
    go_ret
    exact ⟨rfl, Below.refl _ _⟩
  · by_cases h2 : 65536 < len
    · go_enter Tryz.func7, Tryz.ntmps7
      go_wp2_with (go_at_call 14; refine (hk.out _).mono ?_; rintro e w' ⟨rfl, hb⟩)
      go_ret
      exact ⟨rfl, hb⟩
    · have hi := Lib.hid (uuidText_impl a len cap l w hH)
      have hs := Lib.hid (fun W (hB : Below w.heap.size w W) => uuidText_spec a len cap l W ⟨hH.1, hH.2.imp id (fun ⟨x, e, hx, hc⟩ => ⟨x, e, Nat.lt_of_lt_of_le hx hB.size, fun j v hj => (World.cell?_of_block (w := w) (hB.block _ (by rw [Lib.block_add]; exact hx))).trans (hc j v hj)⟩)⟩)
      have HL := Lib.hid (uuidText_length (u16 l) (u16_length l))
      clear hH h
      go_enter Tryz.func7, Tryz.ntmps7
      go_wp2_with (fail)
      refine hi.out.mono ?_
      rintro e W1 ⟨v1, k1, rfl, i1, hk1, hB1⟩
      go_wp2_with (fail)
      refine (hs.out _ hB1).mono ?_
      rintro e W2 ⟨v2, k2, rfl, i2, hB2⟩
      go_wp2_with (fail)
      refine (equal_same k1 k2 v1 v2 _ _ (i1.step (Step.ofBelow (S := []) hB2) (by simp)) i2 (by rw [HL.out]; omega)).mono ?_
      rintro e W3 ⟨rfl, n, rfl⟩
      have hB := below_drewN (hB1.trans (hB2.mono hB1.size)) n
      go_wp2_with (go_at_call 14; refine (hk.out _).mono ?_; rintro e w' ⟨rfl, hb⟩)
      go_ret
      exact ⟨rfl, hB.trans (hb.mono hB.size)⟩

end Go.Proofs.YteadkokfepjgbaaGreatDoor

/- A row is filled by reading of a memory buffer: io.ReadFull. -/
import Derived.Test.YteadkokfepjgbaaGreatDoorC1
namespace Go.Proofs.YteadkokfepjgbaaGreatDoor
open Go.RowKit Go.Deep
set_option linter.unusedVariables false
set_option linter.unusedSimpArgs false

set_option maxRecDepth 100000 in
set_option maxHeartbeats 1000000 in
/-- As many bytes as are asked for are there. -/
theorem readFull_whole (m b g off d o n c : Nat) (bs : List Value) (cur : Array Value) (td : TypeId) (w : World) (h : Mem m b g off bs w) (hn1 : 1 ≤ n) (hn : n ≤ bs.length) (h1 : ∀ v ∈ bs, v.oneCell' = true)
    (hd : w.heap[d]? = some (.cells cur td (0, 0))) (hdm : d ≠ m) (hdb : d ≠ b) (hdg : d ≠ g) (hfit : o + n ≤ cur.size) (hnm : n ≤ maxLen) (hnc : n ≤ c) (hcm : c ≤ maxLen) :
    Calls Tryz.prog 100 #[memV m, .slice (some ⟨d, o, none⟩) n c] w fun e w' => e = .returned (.tuple #[.int .i64 n, .nilIface]) ∧
      Mem m b g (off + n) (bs.drop n) w' ∧ w'.heap[d]? = some (.cells (cur.toList.take o ++ bs.take n ++ cur.toList.drop (o + n)).toArray td (0, 0)) ∧ Step [b, d] [b, d] w w' := by
  have cm := h.cell
  have hmeth := mem_Read
  have hnil := mem_nil_Read
  have hk : min n bs.length = n := Nat.min_eq_left hn
  have hnm' := hnm
  have hcm' := hcm
  unfold maxLen at hnm' hcm'
  have HK := Lib.hid hk
  clear hk
  have hz : decide ((0 : Int) < (n : Int)) = true := by simp; omega
  have hlt : ((n : Int) < (n : Int)) = False := by simp
  go_enter Tryz.func100, Tryz.ntmps100
  go_wp2_with (first | (go_at_call 107; go_in))
  refine wp_loop_rounds 2 ?_
  rw [rounds_succ]
  go_wp2_with fail
  go_region_with ((go_at_call 132; refine (buf_read b g off d o n c bs cur td _ ?_ (by omega) h1 ?_ hdb hdg hfit hn1 hnm).mono ?_; exact h.2.2.2; exact hd; rintro e W1 ⟨rfl, hB, hdd, hs⟩; rw [HK.out] at hB hdd ⊢))
  go_wp2_with fail
  rw [rounds_succ]
  go_wp2_with fail
  go_ret2
  have hs1 : Step [b, d] [b, d] w W1 := ((Step.refl _ _).drew).trans hs
  exact ⟨rfl, h.took hB hs1 (by simp [h.2.1, Ne.symm hdm]), hdd, hs1⟩

end Go.Proofs.YteadkokfepjgbaaGreatDoor

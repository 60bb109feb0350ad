/- The walk of FnUnordered. -/
import Derived.Test.YtnpiheoglilcbaaGreatDoorMu
import Derived.Test.YtnpiheoglilcbaaGreatDoorMb
namespace Go.Proofs.YtnpiheoglilcbaaGreatDoor
open Go.RowKit Go.Deep Go.Proofs.YtnpiheoglilcbaaGreatDoorW.PrintWords
set_option linter.unusedVariables false
set_option linter.unusedSimpArgs false

set_option maxRecDepth 100000 in
set_option maxHeartbeats 1000000 in
theorem fnUnordered_walk (A : Option Addr) (la ca : Nat) (za : List Int) (B : Option Addr) (lb cb : Nat) (zb : List Int) (C : Option Addr) (ls cs : Nat) (zs : List Int) (w : World) (hra : IsRow .i64 w A la ca za) (hrb : IsRow .i64 w B lb cb zb) (hrs : IsRow .i64 w C ls cs zs) :
    Calls Tryz.prog 7 #[.slice A la ca, .slice B lb cb, .slice C ls cs] w fun e w' => e = .returned (.bool true) ∧ Below w.heap.size w w' := by
  obtain ⟨a, rfl, hA, hca⟩ := row_ints hra
  obtain ⟨b, rfl, hB, hcb⟩ := row_ints hrb
  obtain ⟨same, rfl, hC, hcs⟩ := row_ints hrs
  clear hra hrb hrs
  have hk := Lib.hid known_any
  by_cases h1 : a.length ≤ 2147483647 ∧ b.length ≤ 2147483647 ∧ same.length ≤ 2147483647
  case neg =>
    by_cases g1 : a.length ≤ 2147483647
    · have g1' : (a.length : Int) ≤ 2147483647 := by omega
      by_cases g2 : b.length ≤ 2147483647
      · have g2' : (b.length : Int) ≤ 2147483647 := by omega
        have g3' : ¬ (same.length : Int) ≤ 2147483647 := by omega
        go_enter Tryz.func7, Tryz.ntmps7
        go_wp2_with (fail)
        go_ret
        exact ⟨rfl, Below.refl _ _⟩
      · have g2' : ¬ (b.length : Int) ≤ 2147483647 := by omega
        go_enter Tryz.func7, Tryz.ntmps7
        go_wp2_with (fail)
        go_ret
        exact ⟨rfl, Below.refl _ _⟩
    · have g1' : ¬ (a.length : Int) ≤ 2147483647 := by omega
      go_enter Tryz.func7, Tryz.ntmps7
      go_wp2_with (fail)
      go_ret
      exact ⟨rfl, Below.refl _ _⟩
  obtain ⟨g1, g2, g3⟩ := h1
  have g1' : (a.length : Int) ≤ 2147483647 := by omega
  have g2' : (b.length : Int) ≤ 2147483647 := by omega
  have g3' : (same.length : Int) ≤ 2147483647 := by omega
  by_cases h2 : a.length ≤ 1024 ∧ b.length ≤ 1024 ∧ same.length ≤ 65536
  case neg =>
    by_cases k1 : a.length ≤ 1024
    · have k1' : (a.length : Int) ≤ 1024 := by omega
      by_cases k2 : b.length ≤ 1024
      · have k2' : (b.length : Int) ≤ 1024 := by omega
        have k3' : ¬ (same.length : Int) ≤ 65536 := by omega
        go_enter Tryz.func7, Tryz.ntmps7
        go_wp2_with (go_at_call 11; refine (hk.out _).mono ?_; rintro e w' ⟨rfl, hb⟩)
        go_ret
        exact ⟨rfl, hb⟩
      · have k2' : ¬ (b.length : Int) ≤ 1024 := by omega
        go_enter Tryz.func7, Tryz.ntmps7
        go_wp2_with (go_at_call 11; refine (hk.out _).mono ?_; rintro e w' ⟨rfl, hb⟩)
        go_ret
        exact ⟨rfl, hb⟩
    · have k1' : ¬ (a.length : Int) ≤ 1024 := by omega
      go_enter Tryz.func7, Tryz.ntmps7
      go_wp2_with (go_at_call 11; refine (hk.out _).mono ?_; rintro e w' ⟨rfl, hb⟩)
      go_ret
      exact ⟨rfl, hb⟩
  obtain ⟨k1, k2, k3⟩ := h2
  have k1' : (a.length : Int) ≤ 1024 := by omega
  have k2' : (b.length : Int) ≤ 1024 := by omega
  have k3' : (same.length : Int) ≤ 65536 := by omega
  have hU := unordered_any A B C ca cb cs a b same w hA hca hB hcb hC (by omega)
  obtain ⟨k, hS⟩ := spec_f a b same (by omega)
  obtain ⟨r, hr⟩ : ∃ r, decide (a.length = b.length ∧ Bag (a.map (cls same)) (b.map (cls same))) = r := ⟨_, rfl⟩
  rw [hr] at hU hS
  have HU := Lib.hid hU
  have HS := Lib.hid (fun W (hW : Below w.heap.size w W) => spec_Unordered.calls k A ca a B cb b C cs same r W (Kd.C_below hA hW) hca (Kd.C_below hB hW) hcb (Kd.C_below hC hW) hcs hS)
  clear hU hS hr hA hB hC hca hcb hcs
  have hrr : (r == r) = true := by simp
  go_enter Tryz.func7, Tryz.ntmps7
  go_wp2_with (fail)
  refine HU.out.mono ?_
  rintro e W1 ⟨rfl, hB1⟩
  have HB1 := Lib.hid hB1
  clear hB1
  go_wp2_with (fail)
  refine (HS.out W1 HB1.out).mono ?_
  rintro e W2 ⟨rfl, hD⟩
  have HB2 := Lib.hid (HB1.out.trans (hD.below.mono HB1.out.size))
  clear hD
  go_wp2_with (go_at_call 11; refine (hk.out _).mono ?_; rintro e w' ⟨rfl, hb⟩)
  all_goals go_ret
  all_goals exact ⟨rfl, HB2.out.trans (hb.mono HB2.out.size)⟩

end Go.Proofs.YtnpiheoglilcbaaGreatDoor

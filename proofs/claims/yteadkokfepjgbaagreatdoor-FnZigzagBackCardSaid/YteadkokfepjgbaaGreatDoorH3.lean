/- The walk of the law FnZigzagBack. -/
import Derived.Test.YteadkokfepjgbaaGreatDoorH2
namespace Go.Proofs.YteadkokfepjgbaaGreatDoor
open Go.RowKit Go.Deep
set_option linter.unusedVariables false
set_option linter.unusedSimpArgs false

set_option maxRecDepth 100000 in
set_option maxHeartbeats 1000000 in
theorem fnZigzagBack_walk (n : Int) (w : World) (h0 : (Lit.int .i64 n).wf = true) :
    Calls Tryz.prog 4 #[.int .i64 n] w fun e w' => e = .returned (.bool true) ∧ Below w.heap.size w w' := by
  have hk := Lib.hid known_any
  obtain ⟨r0, r1⟩ := range64 h0
  obtain ⟨Z, hZ⟩ : ∃ Z, IntKind.i64.wrap (Lib.zigzag n : Int) = Z := ⟨_, rfl⟩
  obtain ⟨U, hU⟩ : ∃ U, unz64 n = U := ⟨_, rfl⟩
  obtain ⟨M, hM⟩ : ∃ M, wrap64 (wrap32 n) = M := ⟨_, rfl⟩
  have hM1 : wrap32 n = M := by rw [← hM, w64, IntKind.wrap_i64]; unfold wrap32; omega
  have hM2 : wrap32 M = M := by rw [← hM1]; unfold wrap32; omega
  have hMr : -2147483648 ≤ M ∧ M < 2147483648 := by rw [← hM1]; unfold wrap32; omega
  obtain ⟨S, hS⟩ : ∃ S, IntKind.i32.wrap (Lib.zigzag M : Int) = S := ⟨_, rfl⟩
  have c1 := Lib.hid (show ∀ w, Calls Tryz.prog 12 #[.int .i64 n, .bool true] w fun e w' => e = .returned (.int .i64 Z) ∧ Below w.heap.size w w' from fun w => by rw [← hZ]; exact zigzag_long n w r0 r1)
  have c2 := Lib.hid (show ∀ w, Calls Tryz.prog 15 #[.int .i64 Z, .bool true] w fun e w' => e = .returned (.int .i64 n) ∧ Below w.heap.size w w' from fun w => by have := unzigzag_long Z w; rwa [← hZ, unz64_zigzag n r0 r1, hZ] at this)
  have c3 := Lib.hid (show ∀ w, Calls Tryz.prog 15 #[.int .i64 n, .bool true] w fun e w' => e = .returned (.int .i64 U) ∧ Below w.heap.size w w' from fun w => by rw [← hU]; exact unzigzag_long n w)
  have c4 := Lib.hid (show ∀ w, Calls Tryz.prog 12 #[.int .i64 U, .bool true] w fun e w' => e = .returned (.int .i64 n) ∧ Below w.heap.size w w' from fun w => by have := zigzag_long U w (by rw [← hU]; exact (unz64_range n).1) (by rw [← hU]; exact (unz64_range n).2); rwa [← hU, zigzag_unz64 n r0 r1, hU] at this)
  have c5 := Lib.hid (show ∀ w, Calls Tryz.prog 12 #[.int .i64 n, .bool false] w fun e w' => e = .returned (.int .i64 S) ∧ Below w.heap.size w w' from fun w => by have := zigzag_short n w; rwa [hM1, hS] at this)
  have c6 := Lib.hid (show ∀ w, Calls Tryz.prog 15 #[.int .i64 S, .bool false] w fun e w' => e = .returned (.int .i64 M) ∧ Below w.heap.size w w' from fun w => by have := unzigzag_short S w; rwa [w32, unz32_wrap, ← hS, unz32_zigzag M hMr.1 hMr.2, hS] at this)
  have c7 := Lib.hid (show ∀ w, Calls Tryz.prog 12 #[.int .i64 M, .bool false] w fun e w' => e = .returned (.int .i64 S) ∧ Below w.heap.size w w' from fun w => by have := zigzag_short M w; rwa [hM2, hS] at this)
  have hD1 : 0 ≤ n → n < 4611686018427387904 → Z = 2 * n := fun a b => by rw [← hZ, IntKind.wrap_i64]; unfold Lib.zigzag; rw [if_pos a]; omega
  have hD2 : n < 0 → n > -4611686018427387904 → Z = -2 * n - 1 := fun a b => by rw [← hZ, IntKind.wrap_i64]; unfold Lib.zigzag; rw [if_neg (by omega)]; omega
  have hE1 : 0 ≤ M → M < 1073741824 → S = 2 * M := fun a b => by rw [← hS, IntKind.wrap_i32]; unfold Lib.zigzag; rw [if_pos a]; omega
  have hE2 : M < 0 → M > -1073741824 → S = -2 * M - 1 := fun a b => by rw [← hS, IntKind.wrap_i32]; unfold Lib.zigzag; rw [if_neg (by omega)]; omega
  have D1 := Lib.hid hD1
  have D2 := Lib.hid hD2
  have E1 := Lib.hid hE1
  have E2 := Lib.hid hE2
  have hb := Below.refl w.heap.size w
  clear hZ hU hM1 hM2 hS hD1 hD2 hE1 hE2 h0
  go_enter Tryz.func4, Tryz.ntmps4
  go_wp2_with (first | (go_at_call_of 12 (Value.int .i64 n); go_at_call_of 12 (Value.bool true); refine (c1.out _).mono ?_; rintro e w' ⟨rfl, hb1⟩; replace hb := hb.trans (hb1.mono hb.size); clear hb1) | (go_at_call_of 15 (Value.int .i64 Z); go_at_call_of 15 (Value.bool true); refine (c2.out _).mono ?_; rintro e w' ⟨rfl, hb1⟩; replace hb := hb.trans (hb1.mono hb.size); clear hb1) | (go_at_call_of 15 (Value.int .i64 n); go_at_call_of 15 (Value.bool true); refine (c3.out _).mono ?_; rintro e w' ⟨rfl, hb1⟩; replace hb := hb.trans (hb1.mono hb.size); clear hb1) | (go_at_call_of 12 (Value.int .i64 U); go_at_call_of 12 (Value.bool true); refine (c4.out _).mono ?_; rintro e w' ⟨rfl, hb1⟩; replace hb := hb.trans (hb1.mono hb.size); clear hb1) | (go_at_call_of 12 (Value.int .i64 n); go_at_call_of 12 (Value.bool false); refine (c5.out _).mono ?_; rintro e w' ⟨rfl, hb1⟩; replace hb := hb.trans (hb1.mono hb.size); clear hb1) | (go_at_call_of 15 (Value.int .i64 S); go_at_call_of 15 (Value.bool false); refine (c6.out _).mono ?_; rintro e w' ⟨rfl, hb1⟩; replace hb := hb.trans (hb1.mono hb.size); clear hb1) | (go_at_call_of 12 (Value.int .i64 M); go_at_call_of 12 (Value.bool false); refine (c7.out _).mono ?_; rintro e w' ⟨rfl, hb1⟩; replace hb := hb.trans (hb1.mono hb.size); clear hb1) | (go_at_call 14; refine (hk.out _).mono ?_; rintro e w' ⟨rfl, hb1⟩; replace hb := hb.trans (hb1.mono hb.size); clear hb1))
  all_goals go_ret
  all_goals first
    | exact ⟨rfl, hb⟩
    | (exfalso
       have a1 := D1.out
       have a2 := D2.out
       have a3 := E1.out
       have a4 := E2.out
       clear hM hb
       first | omega | (simp_all; done) | (simp_all; omega))

end Go.Proofs.YteadkokfepjgbaaGreatDoor

/- The walks of the laws FnZigzag and FnZigzagBack. -/
import Derived.Test.YteadkokfepjgbaaGreatDoorG7
import Derived.Test.YteadkokfepjgbaaGreatDoorE3
namespace Go.Proofs.YteadkokfepjgbaaGreatDoor
open Go.RowKit Go.Deep
set_option linter.unusedVariables false
set_option linter.unusedSimpArgs false

theorem w32 (x : Int) : wrap32 x = IntKind.i32.wrap x := by rw [IntKind.wrap_i32]; unfold wrap32; omega
theorem w64 (x : Int) : wrap64 x = IntKind.i64.wrap x := by rw [IntKind.wrap_i64]; unfold wrap64; omega
theorem i64_of_i32 (x : Int) : IntKind.i64.wrap (IntKind.i32.wrap x) = IntKind.i32.wrap x := by simp only [IntKind.wrap_i64, IntKind.wrap_i32]; omega

theorem zig64_any (p : Nat) (x : Int) (w : World) (h0 : -9223372036854775808 ≤ x) (h1 : x < 9223372036854775808) :
    Calls Tryz.prog 65 #[.pointer (some ⟨p, 0, none⟩), .int .i64 x] w fun e w' => e = .returned (.int .i64 (IntKind.i64.wrap (Lib.zigzag x : Int))) ∧ w = w' := by
  have hz : bits .xor .i64 (wrap64 (x * 2)) (x / 9223372036854775808) = IntKind.i64.wrap (Lib.zigzag x : Int) := by rw [w64]; exact (i64_zigzag x h0 h1).1
  rw [← hz]
  clear hz
  go_enter Tryz.func65, Tryz.ntmps65
  go_wp2
  go_ret
  exact ⟨rfl, rfl⟩

theorem zig32_any (p : Nat) (x : Int) (w : World) (h0 : -2147483648 ≤ x) (h1 : x < 2147483648) :
    Calls Tryz.prog 66 #[.pointer (some ⟨p, 0, none⟩), .int .i32 x] w fun e w' => e = .returned (.int .i32 (IntKind.i32.wrap (Lib.zigzag x : Int))) ∧ w = w' := by
  have hz : bits .xor .i32 (wrap32 (x * 2)) (x / 2147483648) = IntKind.i32.wrap (Lib.zigzag x : Int) := by rw [w32]; exact (i32_zigzag x h0 h1).1
  rw [← hz]
  clear hz
  go_enter Tryz.func66, Tryz.ntmps66
  go_wp2
  go_ret
  exact ⟨rfl, rfl⟩

theorem unz64_any (p : Nat) (x : Int) (w : World) :
    Calls Tryz.prog 73 #[.pointer (some ⟨p, 0, none⟩), .int .i64 x] w fun e w' => e = .returned (.int .i64 (unz64 x)) ∧ w = w' := by
  have ho := i64_one x
  have hz : bits .xor .i64 (wrap64 (IntKind.u64.wrap x / 2)) (-(x % 2)) = unz64 x := by
    rw [w64, ← i64_unzigzag x, show IntKind.i64.wrap (-(x % 2)) = -(x % 2) by rw [IntKind.wrap_i64]; omega]
  rw [← hz]
  clear hz
  go_enter Tryz.func73, Tryz.ntmps73
  go_wp2
  go_ret
  exact ⟨rfl, rfl⟩

theorem unz32_any (p : Nat) (x : Int) (w : World) :
    Calls Tryz.prog 74 #[.pointer (some ⟨p, 0, none⟩), .int .i32 x] w fun e w' => e = .returned (.int .i32 (unz32 x)) ∧ w = w' := by
  have ho := i32_one x
  have hz : bits .xor .i32 (x % 4294967296 / 2) (-(x % 2)) = unz32 x := by
    rw [← i32_unzigzag x, show IntKind.i32.wrap (-(x % 2)) = -(x % 2) by rw [IntKind.wrap_i32]; omega, show IntKind.i32.wrap (IntKind.u32.wrap x / 2) = x % 4294967296 / 2 by simp only [IntKind.wrap_i32, IntKind.wrap_u32]; omega]
  rw [← hz]
  clear hz
  go_enter Tryz.func74, Tryz.ntmps74
  go_wp2
  go_ret
  exact ⟨rfl, rfl⟩

set_option maxRecDepth 100000 in
set_option maxHeartbeats 1000000 in
theorem zigzag_long (x : Int) (w : World) (h0 : -9223372036854775808 ≤ x) (h1 : x < 9223372036854775808) : Calls Tryz.prog 12 #[.int .i64 x, .bool true] w fun e w' => e = .returned (.int .i64 (IntKind.i64.wrap (Lib.zigzag x : Int))) ∧ Below w.heap.size w w' := by
  have hz := Lib.hid (fun p w => zig64_any p x w h0 h1)
  go_enter Tryz.func12, Tryz.ntmps12
  go_wp2_with (first | (go_at_call 30; go_in) | (go_at_call 65; refine (hz.out _ _).mono ?_; rintro e w' ⟨rfl, rfl⟩))
  go_ret
  exact ⟨rfl, (Below.refl _ _).alloc (Nat.le_refl _) _⟩

set_option maxRecDepth 100000 in
set_option maxHeartbeats 1000000 in
theorem zigzag_short (x : Int) (w : World) : Calls Tryz.prog 12 #[.int .i64 x, .bool false] w fun e w' => e = .returned (.int .i64 (IntKind.i32.wrap (Lib.zigzag (wrap32 x) : Int))) ∧ Below w.heap.size w w' := by
  have hr : wrap64 (wrap32 (Lib.zigzag (wrap32 x) : Int)) = IntKind.i32.wrap (Lib.zigzag (wrap32 x) : Int) := by rw [w64, w32, i64_of_i32]
  rw [← hr]
  clear hr
  have hz := Lib.hid (fun p w => zig32_any p (wrap32 x) w (by unfold wrap32; omega) (by unfold wrap32; omega))
  go_enter Tryz.func12, Tryz.ntmps12
  go_wp2_with (first | (go_at_call 31; go_in) | (go_at_call 66; refine (hz.out _ _).mono ?_; rintro e w' ⟨rfl, rfl⟩))
  go_ret
  exact ⟨rfl, (Below.refl _ _).alloc (Nat.le_refl _) _⟩

set_option maxRecDepth 100000 in
set_option maxHeartbeats 1000000 in
theorem unzigzag_long (x : Int) (w : World) : Calls Tryz.prog 15 #[.int .i64 x, .bool true] w fun e w' => e = .returned (.int .i64 (unz64 x)) ∧ Below w.heap.size w w' := by
  have hz := Lib.hid (fun p w => unz64_any p x w)
  go_enter Tryz.func15, Tryz.ntmps15
  go_wp2_with (first | (go_at_call 36; go_in) | (go_at_call 73; refine (hz.out _ _).mono ?_; rintro e w' ⟨rfl, rfl⟩))
  go_ret
  exact ⟨rfl, (Below.refl _ _).alloc (Nat.le_refl _) _⟩

set_option maxRecDepth 100000 in
set_option maxHeartbeats 1000000 in
theorem unzigzag_short (x : Int) (w : World) : Calls Tryz.prog 15 #[.int .i64 x, .bool false] w fun e w' => e = .returned (.int .i64 (unz32 (wrap32 x))) ∧ Below w.heap.size w w' := by
  have hr : wrap64 (unz32 (wrap32 x)) = unz32 (wrap32 x) := by have := unz32_range (wrap32 x); rw [w64, IntKind.wrap_i64]; omega
  rw [← hr]
  clear hr
  have hz := Lib.hid (fun p w => unz32_any p (wrap32 x) w)
  go_enter Tryz.func15, Tryz.ntmps15
  go_wp2_with (first | (go_at_call 37; go_in) | (go_at_call 74; refine (hz.out _ _).mono ?_; rintro e w' ⟨rfl, rfl⟩))
  go_ret
  exact ⟨rfl, (Below.refl _ _).alloc (Nat.le_refl _) _⟩

set_option maxRecDepth 100000 in
set_option maxHeartbeats 1000000 in
theorem szigzag_long (x : Int) (w : World) (h0 : -9223372036854775808 ≤ x) (h1 : x < 9223372036854775808) : Calls Tryz.prog 13 #[.int .i64 x, .bool true] w fun e w' => e = .returned (.int .i64 (IntKind.i64.wrap (Lib.zigzag x : Int))) ∧ w = w' := by
  have hz := u64_zigzag x h0 h1
  have hr : wrap64 (Lib.zigzag x : Int) = IntKind.i64.wrap (Lib.zigzag x : Int) := w64 _
  rw [← hr]
  clear hr
  go_enter Tryz.func13, Tryz.ntmps13
  go_wp2
  go_ret
  exact ⟨rfl, rfl⟩

set_option maxRecDepth 100000 in
set_option maxHeartbeats 1000000 in
theorem szigzag_short (x : Int) (w : World) : Calls Tryz.prog 13 #[.int .i64 x, .bool false] w fun e w' => e = .returned (.int .i64 (IntKind.i32.wrap (Lib.zigzag (wrap32 x) : Int))) ∧ w = w' := by
  have hz := u32_zigzag (wrap32 x) (by unfold wrap32; omega) (by unfold wrap32; omega)
  simp only [IntKind.wrap_u32] at hz
  have hr : wrap64 (wrap32 (Lib.zigzag (wrap32 x) : Int)) = IntKind.i32.wrap (Lib.zigzag (wrap32 x) : Int) := by rw [w64, w32, i64_of_i32]
  rw [← hr]
  clear hr
  go_enter Tryz.func13, Tryz.ntmps13
  go_wp2
  go_ret
  exact ⟨rfl, rfl⟩

theorem range64 {n : Int} (h : (Lit.int .i64 n).wf = true) : -9223372036854775808 ≤ n ∧ n < 9223372036854775808 := by
  have h' : IntKind.i64.min ≤ n ∧ n ≤ 9223372036854775807 := by simpa [Lit.wf] using h
  have e : IntKind.i64.min = -9223372036854775808 := by decide
  omega

set_option maxRecDepth 100000 in
set_option maxHeartbeats 2000000 in
theorem fnZigzag_walk (n : Int) (long : Bool) (w : World) (h0 : (Lit.int .i64 n).wf = true) :
    Calls Tryz.prog 3 #[.int .i64 n, .bool long] w fun e w' => e = .returned (.bool true) ∧ Below w.heap.size w w' := by
  have hk := Lib.hid known_any
  obtain ⟨r0, r1⟩ := range64 h0
  cases long
  · have z1 := Lib.hid (zigzag_short n)
    have z2 := Lib.hid (szigzag_short n)
    go_enter Tryz.func3, Tryz.ntmps3
    go_wp2_with (first | (go_at_call 12; refine (z1.out _).mono ?_; rintro e w' ⟨rfl, hb1⟩) | (go_at_call 13; refine (z2.out _).mono ?_; rintro e w' ⟨rfl, rfl⟩) | (go_at_call 14; refine (hk.out _).mono ?_; rintro e w' ⟨rfl, hb⟩))
    go_ret
    exact ⟨rfl, hb1.trans (hb.mono hb1.size)⟩
  · have z1 := Lib.hid (fun w => zigzag_long n w r0 r1)
    have z2 := Lib.hid (fun w => szigzag_long n w r0 r1)
    go_enter Tryz.func3, Tryz.ntmps3
    go_wp2_with (first | (go_at_call 12; refine (z1.out _).mono ?_; rintro e w' ⟨rfl, hb1⟩) | (go_at_call 13; refine (z2.out _).mono ?_; rintro e w' ⟨rfl, rfl⟩) | (go_at_call 14; refine (hk.out _).mono ?_; rintro e w' ⟨rfl, hb⟩))
    go_ret
    exact ⟨rfl, hb1.trans (hb.mono hb1.size)⟩

end Go.Proofs.YteadkokfepjgbaaGreatDoor

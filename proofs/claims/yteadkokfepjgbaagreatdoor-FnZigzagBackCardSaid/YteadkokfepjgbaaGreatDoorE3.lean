/- Plain facts on the zig-zag codes of both widths: there and back. -/
import Derived.Test.YteadkokfepjgbaaGreatDoorE0
namespace Go.Proofs.YteadkokfepjgbaaGreatDoor
open Go.RowKit
set_option linter.unusedVariables false
set_option linter.unusedSimpArgs false

theorem u32_zigzag (x : Int) (h0 : -2147483648 ≤ x) (h1 : x < 2147483648) : bits .xor .u32 (IntKind.u32.wrap (IntKind.u32.wrap x * 2)) (IntKind.u32.wrap (x / 2147483648)) = (Lib.zigzag x : Int) := by
  by_cases hx : 0 ≤ x
  · have e : x / 2147483648 = 0 := by omega
    have ez : (Lib.zigzag x : Int) = 2 * x := by unfold Lib.zigzag; rw [if_pos hx]; omega
    rw [e, ez]
    simp only [bits]
    rw [show BitVec.ofInt IntKind.u32.bits (IntKind.u32.wrap 0) = 0#_ from by decide, BitVec.xor_zero, bitsOf]
    show IntKind.u32.wrap ((IntKind.u32.wrap (IntKind.u32.wrap x * 2) % 4294967296).toNat : Int) = _
    simp only [IntKind.wrap_u32]
    omega
  · have e : x / 2147483648 = -1 := by omega
    have ez : (Lib.zigzag x : Int) = -2 * x - 1 := by unfold Lib.zigzag; rw [if_neg hx]; omega
    rw [e, ez]
    simp only [bits]
    rw [show BitVec.ofInt IntKind.u32.bits (IntKind.u32.wrap (-1)) = BitVec.allOnes _ from by decide, BitVec.xor_allOnes, BitVec.toNat_not, bitsOf]
    show IntKind.u32.wrap ((4294967296 - 1 - (IntKind.u32.wrap (IntKind.u32.wrap x * 2) % 4294967296).toNat : Nat) : Int) = _
    simp only [IntKind.wrap_u32]
    omega

theorem i32_one (x : Int) : bits .and .i32 x 1 = x % 2 := by
  obtain ⟨n, hn⟩ : ∃ n : Nat, x % 4294967296 = n := ⟨(x % 4294967296).toNat, by omega⟩
  have e : bits .and .i32 x 1 = IntKind.i32.wrap ((n &&& 1 : Nat) : Int) := by
    simp only [bits, BitVec.toNat_and, bitsOf]
    have e1 : (x % (2 : Int) ^ IntKind.i32.bits).toNat = n := by show (x % 4294967296).toNat = n; omega
    have e2 : ((1 : Int) % (2 : Int) ^ IntKind.i32.bits).toNat = 1 := by decide
    rw [e1, e2]
  rw [e, show n &&& 1 = n % 2 from Nat.and_two_pow_sub_one_eq_mod n 1, IntKind.wrap_i32]
  omega

/-- The number that a zig-zag code of 32 bits stands for. -/
def unz32 (n : Int) : Int := if n % 2 = 0 then n % 4294967296 / 2 else -(n % 4294967296 / 2) - 1

theorem i32_unzigzag (x : Int) : bits .xor .i32 (IntKind.i32.wrap (IntKind.u32.wrap x / 2)) (IntKind.i32.wrap (-(x % 2))) = unz32 x := by
  unfold unz32
  by_cases hx : x % 2 = 0
  · rw [if_pos hx, hx]
    simp only [bits]
    rw [show BitVec.ofInt IntKind.i32.bits (IntKind.i32.wrap (-0)) = 0#_ from by decide, BitVec.xor_zero, bitsOf]
    show IntKind.i32.wrap ((IntKind.i32.wrap (IntKind.u32.wrap x / 2) % 4294967296).toNat : Int) = _
    simp only [IntKind.wrap_i32, IntKind.wrap_u32]
    omega
  · rw [if_neg hx, show x % 2 = 1 by omega]
    simp only [bits]
    rw [show BitVec.ofInt IntKind.i32.bits (IntKind.i32.wrap (-1)) = BitVec.allOnes _ from by decide, BitVec.xor_allOnes, BitVec.toNat_not, bitsOf]
    show IntKind.i32.wrap ((4294967296 - 1 - (IntKind.i32.wrap (IntKind.u32.wrap x / 2) % 4294967296).toNat : Nat) : Int) = _
    simp only [IntKind.wrap_i32, IntKind.wrap_u32]
    omega

theorem unz32_wrap (x : Int) : unz32 (IntKind.i32.wrap x) = unz32 x := by
  unfold unz32
  simp only [IntKind.wrap_i32]
  split <;> split <;> omega

theorem unz32_zigzag (x : Int) (h0 : -2147483648 ≤ x) (h1 : x < 2147483648) : unz32 (IntKind.i32.wrap (Lib.zigzag x : Int)) = x := by
  rw [unz32_wrap]
  unfold unz32 Lib.zigzag
  split <;> split <;> omega

theorem zigzag_unz32 (x : Int) (h0 : -2147483648 ≤ x) (h1 : x < 2147483648) : IntKind.i32.wrap (Lib.zigzag (unz32 x) : Int) = x := by
  unfold unz32 Lib.zigzag
  simp only [IntKind.wrap_i32]
  split <;> split <;> omega

theorem unz32_range (x : Int) : -2147483648 ≤ unz32 x ∧ unz32 x < 2147483648 := by
  unfold unz32
  split <;> omega

theorem u64_zigzag (x : Int) (h0 : -9223372036854775808 ≤ x) (h1 : x < 9223372036854775808) : bits .xor .u64 (IntKind.u64.wrap (IntKind.u64.wrap x * 2)) (IntKind.u64.wrap (x / 9223372036854775808)) = (Lib.zigzag x : Int) := by
  by_cases hx : 0 ≤ x
  · have e : x / 9223372036854775808 = 0 := by omega
    have ez : (Lib.zigzag x : Int) = 2 * x := by unfold Lib.zigzag; rw [if_pos hx]; omega
    rw [e, ez]
    simp only [bits]
    rw [show BitVec.ofInt IntKind.u64.bits (IntKind.u64.wrap 0) = 0#_ from by decide, BitVec.xor_zero, bitsOf]
    show IntKind.u64.wrap ((IntKind.u64.wrap (IntKind.u64.wrap x * 2) % 18446744073709551616).toNat : Int) = _
    simp only [IntKind.wrap_u64]
    omega
  · have e : x / 9223372036854775808 = -1 := by omega
    have ez : (Lib.zigzag x : Int) = -2 * x - 1 := by unfold Lib.zigzag; rw [if_neg hx]; omega
    rw [e, ez]
    simp only [bits]
    rw [show BitVec.ofInt IntKind.u64.bits (IntKind.u64.wrap (-1)) = BitVec.allOnes _ from by decide, BitVec.xor_allOnes, BitVec.toNat_not, bitsOf]
    show IntKind.u64.wrap ((18446744073709551616 - 1 - (IntKind.u64.wrap (IntKind.u64.wrap x * 2) % 18446744073709551616).toNat : Nat) : Int) = _
    simp only [IntKind.wrap_u64]
    omega

theorem i64_one (x : Int) : bits .and .i64 x 1 = x % 2 := by
  obtain ⟨n, hn⟩ : ∃ n : Nat, x % 18446744073709551616 = n := ⟨(x % 18446744073709551616).toNat, by omega⟩
  have e : bits .and .i64 x 1 = IntKind.i64.wrap ((n &&& 1 : Nat) : Int) := by
    simp only [bits, BitVec.toNat_and, bitsOf]
    have e1 : (x % (2 : Int) ^ IntKind.i64.bits).toNat = n := by show (x % 18446744073709551616).toNat = n; omega
    have e2 : ((1 : Int) % (2 : Int) ^ IntKind.i64.bits).toNat = 1 := by decide
    rw [e1, e2]
  rw [e, show n &&& 1 = n % 2 from Nat.and_two_pow_sub_one_eq_mod n 1, IntKind.wrap_i64]
  omega

/-- The number that a zig-zag code of 64 bits stands for. -/
def unz64 (n : Int) : Int := if n % 2 = 0 then n % 18446744073709551616 / 2 else -(n % 18446744073709551616 / 2) - 1

theorem i64_unzigzag (x : Int) : bits .xor .i64 (IntKind.i64.wrap (IntKind.u64.wrap x / 2)) (IntKind.i64.wrap (-(x % 2))) = unz64 x := by
  unfold unz64
  by_cases hx : x % 2 = 0
  · rw [if_pos hx, hx]
    simp only [bits]
    rw [show BitVec.ofInt IntKind.i64.bits (IntKind.i64.wrap (-0)) = 0#_ from by decide, BitVec.xor_zero, bitsOf]
    show IntKind.i64.wrap ((IntKind.i64.wrap (IntKind.u64.wrap x / 2) % 18446744073709551616).toNat : Int) = _
    simp only [IntKind.wrap_i64, IntKind.wrap_u64]
    omega
  · rw [if_neg hx, show x % 2 = 1 by omega]
    simp only [bits]
    rw [show BitVec.ofInt IntKind.i64.bits (IntKind.i64.wrap (-1)) = BitVec.allOnes _ from by decide, BitVec.xor_allOnes, BitVec.toNat_not, bitsOf]
    show IntKind.i64.wrap ((18446744073709551616 - 1 - (IntKind.i64.wrap (IntKind.u64.wrap x / 2) % 18446744073709551616).toNat : Nat) : Int) = _
    simp only [IntKind.wrap_i64, IntKind.wrap_u64]
    omega

theorem unz64_wrap (x : Int) : unz64 (IntKind.i64.wrap x) = unz64 x := by
  unfold unz64
  simp only [IntKind.wrap_i64]
  split <;> split <;> omega

theorem unz64_zigzag (x : Int) (h0 : -9223372036854775808 ≤ x) (h1 : x < 9223372036854775808) : unz64 (IntKind.i64.wrap (Lib.zigzag x : Int)) = x := by
  rw [unz64_wrap]
  unfold unz64 Lib.zigzag
  split <;> split <;> omega

theorem zigzag_unz64 (x : Int) (h0 : -9223372036854775808 ≤ x) (h1 : x < 9223372036854775808) : IntKind.i64.wrap (Lib.zigzag (unz64 x) : Int) = x := by
  unfold unz64 Lib.zigzag
  simp only [IntKind.wrap_i64]
  split <;> split <;> omega

theorem unz64_range (x : Int) : -9223372036854775808 ≤ unz64 x ∧ unz64 x < 9223372036854775808 := by
  unfold unz64
  split <;> omega

end Go.Proofs.YteadkokfepjgbaaGreatDoor

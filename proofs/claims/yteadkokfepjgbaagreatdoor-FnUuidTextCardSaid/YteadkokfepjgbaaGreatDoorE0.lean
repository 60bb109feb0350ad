/- Plain facts on the bits of numbers: those of the compact protocol's numbers on the wire. -/
import Derived.WalkKit
import Derived.Lib.Varint
import Derived.Lib.Zigzag
import Derived.Lib.VarintBits
namespace Go.Proofs.YteadkokfepjgbaaGreatDoor
open Go.RowKit
set_option linter.unusedVariables false
set_option linter.unusedSimpArgs false

theorem and_high (W n : Nat) (hW : 7 ≤ W) (hn : n < 2 ^ W) : n &&& (2 ^ W - 128) = n / 128 * 128 := by
  have e : 2 ^ W - 128 = (2 ^ (W - 7) - 1) * 2 ^ 7 := by
    obtain ⟨k, rfl⟩ : ∃ k, W = k + 7 := ⟨W - 7, by omega⟩
    rw [Nat.add_sub_cancel, Nat.pow_add, Nat.sub_mul]
  rw [e]
  apply Nat.eq_of_testBit_eq
  intro i
  rw [Nat.testBit_and, show n / 128 * 128 = n / 2 ^ 7 * 2 ^ 7 from rfl, ← Nat.shiftLeft_eq, ← Nat.shiftLeft_eq, Nat.testBit_shiftLeft, Nat.testBit_shiftLeft, Nat.testBit_two_pow_sub_one, Nat.testBit_div_two_pow]
  by_cases h7 : 7 ≤ i
  · have e2 : i - 7 + 7 = i := by omega
    simp only [ge_iff_le, h7, decide_true, Bool.true_and, e2]
    by_cases hi : i < W
    · have : i - 7 < W - 7 := by omega
      simp [this]
    · have : n.testBit i = false := Nat.testBit_lt_two_pow (Nat.lt_of_lt_of_le hn (Nat.pow_le_pow_right (by decide) (by omega)))
      simp [this]
  · simp [h7]

theorem bitsOf (k : IntKind) (x : Int) : (BitVec.ofInt k.bits x).toNat = (x % (2 : Int) ^ k.bits).toNat := by
  rw [BitVec.toNat_ofInt]
  norm_cast

theorem i32_and_high {x : Int} {n : Nat} (h : x % 4294967296 = n) : (bits .and .i32 x (-128) == 0) = decide (n < 128) := by
  have hn : n < 4294967296 := by omega
  have e : bits .and .i32 x (-128) = IntKind.i32.wrap ((n &&& (2 ^ 32 - 128) : Nat) : Int) := by
    simp only [bits, BitVec.toNat_and, bitsOf]
    have e1 : (x % (2 : Int) ^ IntKind.i32.bits).toNat = n := by show (x % 4294967296).toNat = n; omega
    have e2 : ((-128 : Int) % (2 : Int) ^ IntKind.i32.bits).toNat = 2 ^ 32 - 128 := by decide
    rw [e1, e2]
  rw [e, and_high 32 n (by omega) hn, IntKind.wrap_i32]
  rw [Bool.eq_iff_iff]
  simp only [beq_iff_eq, decide_eq_true_eq]
  omega

theorem i64_and_high {x : Int} {n : Nat} (h : x % 18446744073709551616 = n) : (bits .and .i64 x (-128) == 0) = decide (n < 128) := by
  have hn : n < 18446744073709551616 := by omega
  have e : bits .and .i64 x (-128) = IntKind.i64.wrap ((n &&& (2 ^ 64 - 128) : Nat) : Int) := by
    simp only [bits, BitVec.toNat_and, bitsOf]
    have e1 : (x % (2 : Int) ^ IntKind.i64.bits).toNat = n := by show (x % 18446744073709551616).toNat = n; omega
    have e2 : ((-128 : Int) % (2 : Int) ^ IntKind.i64.bits).toNat = 2 ^ 64 - 128 := by decide
    rw [e1, e2]
  rw [e, and_high 64 n (by omega) hn, IntKind.wrap_i64]
  rw [Bool.eq_iff_iff]
  simp only [beq_iff_eq, decide_eq_true_eq]
  omega

theorem i32_and_low {x : Int} {n : Nat} (h : x % 4294967296 = n) : bits .and .i32 x 127 = ((n % 128 : Nat) : Int) := by
  have e : bits .and .i32 x 127 = IntKind.i32.wrap ((n &&& 127 : Nat) : Int) := by
    simp only [bits, BitVec.toNat_and, bitsOf]
    have e1 : (x % (2 : Int) ^ IntKind.i32.bits).toNat = n := by show (x % 4294967296).toNat = n; omega
    have e2 : ((127 : Int) % (2 : Int) ^ IntKind.i32.bits).toNat = 127 := by decide
    rw [e1, e2]
  rw [e, show n &&& 127 = n % 128 from Nat.and_two_pow_sub_one_eq_mod n 7, IntKind.wrap_i32]
  omega

theorem i64_and_low {x : Int} {n : Nat} (h : x % 18446744073709551616 = n) : bits .and .i64 x 127 = ((n % 128 : Nat) : Int) := by
  have e : bits .and .i64 x 127 = IntKind.i64.wrap ((n &&& 127 : Nat) : Int) := by
    simp only [bits, BitVec.toNat_and, bitsOf]
    have e1 : (x % (2 : Int) ^ IntKind.i64.bits).toNat = n := by show (x % 18446744073709551616).toNat = n; omega
    have e2 : ((127 : Int) % (2 : Int) ^ IntKind.i64.bits).toNat = 127 := by decide
    rw [e1, e2]
  rw [e, show n &&& 127 = n % 128 from Nat.and_two_pow_sub_one_eq_mod n 7, IntKind.wrap_i64]
  omega

set_option maxRecDepth 100000 in
theorem or128_low : ∀ a : Fin 128, (a.val ||| 128) = a.val + 128 := by decide

theorem i32_or128 (m : Nat) (h : m < 128) : bits .or .i32 (m : Int) 128 = (m : Int) + 128 := by
  have e := (bits_nat .i32 8 (by decide) (fun n h0 h1 => by rw [IntKind.wrap_i32]; omega) m 128 (by omega) (by decide)).2
  have e2 : m ||| 128 = m + 128 := or128_low ⟨m, h⟩
  have e3 : ((128 : Nat) : Int) = 128 := rfl
  rw [e3] at e
  rw [e, e2]
  omega

theorem i64_or128 (m : Nat) (h : m < 128) : bits .or .i64 (m : Int) 128 = (m : Int) + 128 := by
  have e := (bits_nat .i64 8 (by decide) (fun n h0 h1 => by rw [IntKind.wrap_i64]; omega) m 128 (by omega) (by decide)).2
  have e2 : m ||| 128 = m + 128 := or128_low ⟨m, h⟩
  have e3 : ((128 : Nat) : Int) = 128 := rfl
  rw [e3] at e
  rw [e, e2]
  omega

theorem i32_zigzag (x : Int) (h0 : -2147483648 ≤ x) (h1 : x < 2147483648) : bits .xor .i32 (IntKind.i32.wrap (x * 2)) (x / 2147483648) = IntKind.i32.wrap (Lib.zigzag x : Int) ∧ Lib.zigzag x < 4294967296 := by
  have hz : Lib.zigzag x < 4294967296 := by unfold Lib.zigzag; split <;> omega
  refine ⟨?_, hz⟩
  by_cases hx : 0 ≤ x
  · have e : x / 2147483648 = 0 := by omega
    have ez : (Lib.zigzag x : Int) = 2 * x := by unfold Lib.zigzag; rw [if_pos hx]; omega
    rw [e, ez]
    simp only [bits]
    rw [show BitVec.ofInt IntKind.i32.bits 0 = 0#_ from by decide, BitVec.xor_zero, bitsOf]
    show IntKind.i32.wrap ((IntKind.i32.wrap (x * 2) % 4294967296).toNat : Int) = _
    simp only [IntKind.wrap_i32]
    omega
  · have e : x / 2147483648 = -1 := by omega
    have ez : (Lib.zigzag x : Int) = -2 * x - 1 := by unfold Lib.zigzag; rw [if_neg hx]; omega
    rw [e, ez]
    simp only [bits]
    rw [show BitVec.ofInt IntKind.i32.bits (-1) = BitVec.allOnes _ from by decide, BitVec.xor_allOnes, BitVec.toNat_not, bitsOf]
    show IntKind.i32.wrap ((4294967296 - 1 - (IntKind.i32.wrap (x * 2) % 4294967296).toNat : Nat) : Int) = _
    simp only [IntKind.wrap_i32]
    omega

theorem i64_zigzag (x : Int) (h0 : -9223372036854775808 ≤ x) (h1 : x < 9223372036854775808) : bits .xor .i64 (IntKind.i64.wrap (x * 2)) (x / 9223372036854775808) = IntKind.i64.wrap (Lib.zigzag x : Int) ∧ Lib.zigzag x < 18446744073709551616 := by
  have hz : Lib.zigzag x < 18446744073709551616 := by unfold Lib.zigzag; split <;> omega
  refine ⟨?_, hz⟩
  by_cases hx : 0 ≤ x
  · have e : x / 9223372036854775808 = 0 := by omega
    have ez : (Lib.zigzag x : Int) = 2 * x := by unfold Lib.zigzag; rw [if_pos hx]; omega
    rw [e, ez]
    simp only [bits]
    rw [show BitVec.ofInt IntKind.i64.bits 0 = 0#_ from by decide, BitVec.xor_zero, bitsOf]
    show IntKind.i64.wrap ((IntKind.i64.wrap (x * 2) % 18446744073709551616).toNat : Int) = _
    simp only [IntKind.wrap_i64]
    omega
  · have e : x / 9223372036854775808 = -1 := by omega
    have ez : (Lib.zigzag x : Int) = -2 * x - 1 := by unfold Lib.zigzag; rw [if_neg hx]; omega
    rw [e, ez]
    simp only [bits]
    rw [show BitVec.ofInt IntKind.i64.bits (-1) = BitVec.allOnes _ from by decide, BitVec.xor_allOnes, BitVec.toNat_not, bitsOf]
    show IntKind.i64.wrap ((18446744073709551616 - 1 - (IntKind.i64.wrap (x * 2) % 18446744073709551616).toNat : Nat) : Int) = _
    simp only [IntKind.wrap_i64]
    omega

end Go.Proofs.YteadkokfepjgbaaGreatDoor

/- The compact protocol's numbers, and known: it returns true. No condition. -/
import Derived.WalkKit
import Derived.Lib.Varint
import Derived.Lib.Zigzag
import Derived.Lib.VarintBits
import Derived.Test.YtnpiheoglilcbaaGreatDoorMa
/-! Plain facts on the bits of numbers: those of the compact protocol's numbers on the wire. -/
namespace Go.Proofs.YtnpiheoglilcbaaGreatDoor
open Go.RowKit
set_option linter.unusedVariables false
set_option linter.unusedSimpArgs false

theorem and_high (W n : Nat) (hW : 7 ≤ W) (hn : n < 2 ^ W) : n &&& (2 ^ W - 128) = n / 128 * 128 := by
  have e : 2 ^ W - 128 = (2 ^ (W - 7) - 1) * 2 ^ 7 := by
    obtain ⟨k, rfl⟩ : ∃ k, W = k + 7 := ⟨W - 7, by omega⟩
    rw [Nat.add_sub_cancel, Nat.pow_add, Nat.sub_mul]
  rw [e]
  apply Nat.eq_of_testBit_eq
  intro i
  rw [Nat.testBit_and, show n / 128 * 128 = n / 2 ^ 7 * 2 ^ 7 from rfl, ← Nat.shiftLeft_eq, ← Nat.shiftLeft_eq, Nat.testBit_shiftLeft, Nat.testBit_shiftLeft, Nat.testBit_two_pow_sub_one, Nat.testBit_div_two_pow]
  by_cases h7 : 7 ≤ i
  · have e2 : i - 7 + 7 = i := by omega
    simp only [ge_iff_le, h7, decide_true, Bool.true_and, e2]
    by_cases hi : i < W
    · have : i - 7 < W - 7 := by omega
      simp [this]
    · have : n.testBit i = false := Nat.testBit_lt_two_pow (Nat.lt_of_lt_of_le hn (Nat.pow_le_pow_right (by decide) (by omega)))
      simp [this]
  · simp [h7]

theorem bitsOf (k : IntKind) (x : Int) : (BitVec.ofInt k.bits x).toNat = (x % (2 : Int) ^ k.bits).toNat := by
  rw [BitVec.toNat_ofInt]
  norm_cast

theorem i32_and_high {x : Int} {n : Nat} (h : x % 4294967296 = n) : (bits .and .i32 x (-128) == 0) = decide (n < 128) := by
  have hn : n < 4294967296 := by omega
  have e : bits .and .i32 x (-128) = IntKind.i32.wrap ((n &&& (2 ^ 32 - 128) : Nat) : Int) := by
    simp only [bits, BitVec.toNat_and, bitsOf]
    have e1 : (x % (2 : Int) ^ IntKind.i32.bits).toNat = n := by show (x % 4294967296).toNat = n; omega
    have e2 : ((-128 : Int) % (2 : Int) ^ IntKind.i32.bits).toNat = 2 ^ 32 - 128 := by decide
    rw [e1, e2]
  rw [e, and_high 32 n (by omega) hn, IntKind.wrap_i32]
  rw [Bool.eq_iff_iff]
  simp only [beq_iff_eq, decide_eq_true_eq]
  omega

theorem i64_and_high {x : Int} {n : Nat} (h : x % 18446744073709551616 = n) : (bits .and .i64 x (-128) == 0) = decide (n < 128) := by
  have hn : n < 18446744073709551616 := by omega
  have e : bits .and .i64 x (-128) = IntKind.i64.wrap ((n &&& (2 ^ 64 - 128) : Nat) : Int) := by
    simp only [bits, BitVec.toNat_and, bitsOf]
    have e1 : (x % (2 : Int) ^ IntKind.i64.bits).toNat = n := by show (x % 18446744073709551616).toNat = n; omega
    have e2 : ((-128 : Int) % (2 : Int) ^ IntKind.i64.bits).toNat = 2 ^ 64 - 128 := by decide
    rw [e1, e2]
  rw [e, and_high 64 n (by omega) hn, IntKind.wrap_i64]
  rw [Bool.eq_iff_iff]
  simp only [beq_iff_eq, decide_eq_true_eq]
  omega

theorem i32_and_low {x : Int} {n : Nat} (h : x % 4294967296 = n) : bits .and .i32 x 127 = ((n % 128 : Nat) : Int) := by
  have e : bits .and .i32 x 127 = IntKind.i32.wrap ((n &&& 127 : Nat) : Int) := by
    simp only [bits, BitVec.toNat_and, bitsOf]
    have e1 : (x % (2 : Int) ^ IntKind.i32.bits).toNat = n := by show (x % 4294967296).toNat = n; omega
    have e2 : ((127 : Int) % (2 : Int) ^ IntKind.i32.bits).toNat = 127 := by decide
    rw [e1, e2]
  rw [e, show n &&& 127 = n % 128 from Nat.and_two_pow_sub_one_eq_mod n 7, IntKind.wrap_i32]
  omega

theorem i64_and_low {x : Int} {n : Nat} (h : x % 18446744073709551616 = n) : bits .and .i64 x 127 = ((n % 128 : Nat) : Int) := by
  have e : bits .and .i64 x 127 = IntKind.i64.wrap ((n &&& 127 : Nat) : Int) := by
    simp only [bits, BitVec.toNat_and, bitsOf]
    have e1 : (x % (2 : Int) ^ IntKind.i64.bits).toNat = n := by show (x % 18446744073709551616).toNat = n; omega
    have e2 : ((127 : Int) % (2 : Int) ^ IntKind.i64.bits).toNat = 127 := by decide
    rw [e1, e2]
  rw [e, show n &&& 127 = n % 128 from Nat.and_two_pow_sub_one_eq_mod n 7, IntKind.wrap_i64]
  omega

set_option maxRecDepth 100000 in
theorem or128_low : ∀ a : Fin 128, (a.val ||| 128) = a.val + 128 := by decide

theorem i32_or128 (m : Nat) (h : m < 128) : bits .or .i32 (m : Int) 128 = (m : Int) + 128 := by
  have e := (bits_nat .i32 8 (by decide) (fun n h0 h1 => by rw [IntKind.wrap_i32]; omega) m 128 (by omega) (by decide)).2
  have e2 : m ||| 128 = m + 128 := or128_low ⟨m, h⟩
  have e3 : ((128 : Nat) : Int) = 128 := rfl
  rw [e3] at e
  rw [e, e2]
  omega

theorem i64_or128 (m : Nat) (h : m < 128) : bits .or .i64 (m : Int) 128 = (m : Int) + 128 := by
  have e := (bits_nat .i64 8 (by decide) (fun n h0 h1 => by rw [IntKind.wrap_i64]; omega) m 128 (by omega) (by decide)).2
  have e2 : m ||| 128 = m + 128 := or128_low ⟨m, h⟩
  have e3 : ((128 : Nat) : Int) = 128 := rfl
  rw [e3] at e
  rw [e, e2]
  omega

theorem i32_zigzag (x : Int) (h0 : -2147483648 ≤ x) (h1 : x < 2147483648) : bits .xor .i32 (IntKind.i32.wrap (x * 2)) (x / 2147483648) = IntKind.i32.wrap (Lib.zigzag x : Int) ∧ Lib.zigzag x < 4294967296 := by
  have hz : Lib.zigzag x < 4294967296 := by unfold Lib.zigzag; split <;> omega
  refine ⟨?_, hz⟩
  by_cases hx : 0 ≤ x
  · have e : x / 2147483648 = 0 := by omega
    have ez : (Lib.zigzag x : Int) = 2 * x := by unfold Lib.zigzag; rw [if_pos hx]; omega
    rw [e, ez]
    simp only [bits]
    rw [show BitVec.ofInt IntKind.i32.bits 0 = 0#_ from by decide, BitVec.xor_zero, bitsOf]
    show IntKind.i32.wrap ((IntKind.i32.wrap (x * 2) % 4294967296).toNat : Int) = _
    simp only [IntKind.wrap_i32]
    omega
  · have e : x / 2147483648 = -1 := by omega
    have ez : (Lib.zigzag x : Int) = -2 * x - 1 := by unfold Lib.zigzag; rw [if_neg hx]; omega
    rw [e, ez]
    simp only [bits]
    rw [show BitVec.ofInt IntKind.i32.bits (-1) = BitVec.allOnes _ from by decide, BitVec.xor_allOnes, BitVec.toNat_not, bitsOf]
    show IntKind.i32.wrap ((4294967296 - 1 - (IntKind.i32.wrap (x * 2) % 4294967296).toNat : Nat) : Int) = _
    simp only [IntKind.wrap_i32]
    omega

theorem i64_zigzag (x : Int) (h0 : -9223372036854775808 ≤ x) (h1 : x < 9223372036854775808) : bits .xor .i64 (IntKind.i64.wrap (x * 2)) (x / 9223372036854775808) = IntKind.i64.wrap (Lib.zigzag x : Int) ∧ Lib.zigzag x < 18446744073709551616 := by
  have hz : Lib.zigzag x < 18446744073709551616 := by unfold Lib.zigzag; split <;> omega
  refine ⟨?_, hz⟩
  by_cases hx : 0 ≤ x
  · have e : x / 9223372036854775808 = 0 := by omega
    have ez : (Lib.zigzag x : Int) = 2 * x := by unfold Lib.zigzag; rw [if_pos hx]; omega
    rw [e, ez]
    simp only [bits]
    rw [show BitVec.ofInt IntKind.i64.bits 0 = 0#_ from by decide, BitVec.xor_zero, bitsOf]
    show IntKind.i64.wrap ((IntKind.i64.wrap (x * 2) % 18446744073709551616).toNat : Int) = _
    simp only [IntKind.wrap_i64]
    omega
  · have e : x / 9223372036854775808 = -1 := by omega
    have ez : (Lib.zigzag x : Int) = -2 * x - 1 := by unfold Lib.zigzag; rw [if_neg hx]; omega
    rw [e, ez]
    simp only [bits]
    rw [show BitVec.ofInt IntKind.i64.bits (-1) = BitVec.allOnes _ from by decide, BitVec.xor_allOnes, BitVec.toNat_not, bitsOf]
    show IntKind.i64.wrap ((18446744073709551616 - 1 - (IntKind.i64.wrap (x * 2) % 18446744073709551616).toNat : Nat) : Int) = _
    simp only [IntKind.wrap_i64]
    omega

end Go.Proofs.YtnpiheoglilcbaaGreatDoor

/-! The compact protocol over a memory buffer: a number of seven bits a byte is written. -/
namespace Go.Proofs.YtnpiheoglilcbaaGreatDoor
open Go.RowKit Go.Deep
set_option linter.unusedVariables false
set_option linter.unusedSimpArgs false

/-- What a compact protocol keeps besides its transport and its scratch. -/
structure CS where
  lf : Value
  last : Int
  nm : Value
  bid : Int
  bp : Bool
  bv : Bool
  bn : Bool

def CS.row (tr og cf : Value) (s : CS) (sc : List Value) : List Value :=
  tr :: og :: cf :: s.lf :: .int .i64 s.last :: s.nm :: .int .i16 s.bid :: .bool s.bp :: .bool s.bv :: .bool s.bn :: sc

/-- Block p is a compact protocol. -/
def Cmp (p : Nat) (tr og cf : Value) (s : CS) (sc : List Value) (w : World) : Prop :=
  w.heap[p]? = some (.cells (CS.row tr og cf s sc).toArray 143 (0, 0)) ∧ sc.length = 64 ∧ ∀ v ∈ sc, v.oneCell' = true

theorem Cmp.cells {p : Nat} {tr og cf : Value} {s : CS} {sc : List Value} {w : World} (h : Cmp p tr og cf s sc w) (i : Nat) : w.cell? ⟨p, i, none⟩ = (CS.row tr og cf s sc)[i]? := by
  rw [cell_heap h.1]; simp

theorem Cmp.cell {p : Nat} {tr og cf : Value} {s : CS} {sc : List Value} {w : World} (h : Cmp p tr og cf s sc w) (i : Nat) (hi : i < 64) : ∃ v, w.cell? ⟨p, 10 + i, none⟩ = some v ∧ w.frozen? ⟨p, 10 + i, none⟩ = false := by
  refine ⟨sc[i]'(by rw [h.2.1]; exact hi), ?_, frozen_heap h.1 _⟩
  rw [h.cells, Nat.add_comm]
  simp only [CS.row, List.getElem?_cons_succ]
  rw [List.getElem?_eq_getElem]

theorem Cmp.lt {p : Nat} {tr og cf : Value} {s : CS} {sc : List Value} {w : World} (h : Cmp p tr og cf s sc w) : p < w.heap.size := lt_heap h.1

theorem Cmp.step {p : Nat} {tr og cf : Value} {s : CS} {sc : List Value} {S T : List Nat} {w w1 : World} (h : Cmp p tr og cf s sc w) (hs : Step S T w w1) (hp : p ∉ S) : Cmp p tr og cf s sc w1 :=
  ⟨(hs.block p h.lt hp).trans h.1, h.2⟩

theorem Cmp.alloc {p : Nat} {tr og cf : Value} {s : CS} {sc : List Value} {w : World} (h : Cmp p tr og cf s sc w) (o : Obj) : Cmp p tr og cf s sc (w.alloc o) := ⟨heap_alloc_old h.1 o, h.2⟩
theorem Cmp.drewN {p : Nat} {tr og cf : Value} {s : CS} {sc : List Value} {w : World} (h : Cmp p tr og cf s sc w) (n : Nat) : Cmp p tr og cf s sc (w.drewN n) := h

/-- A cell of its scratch is set. -/
theorem Cmp.poke {p : Nat} {tr og cf : Value} {s : CS} {sc : List Value} {w : World} (h : Cmp p tr og cf s sc w) (k : Nat) (v : Value) (h1 : v.oneCell' = true) : Cmp p tr og cf s (sc.set k v) (w.setCell ⟨p, 10 + k, none⟩ v) := by
  refine ⟨?_, by simp [h.2.1], fun x hx => ?_⟩
  · rw [heap_set_same h.1]
    congr 2
    apply Array.toList_inj.1
    simp only [Array.toList_setIfInBounds, List.toList_toArray, CS.row]
    rw [Nat.add_comm]
    rfl
  · rcases List.mem_or_eq_of_mem_set hx with hx | rfl
    · exact h.2.2 x hx
    · exact h1

/-- The bounds of what is left of a number of 32 bits. -/
def Bd32 (k M : Nat) : Prop := (k = 0 ∧ M < 4294967296) ∨ (k = 1 ∧ M < 33554432) ∨ (k = 2 ∧ M < 262144) ∨ (k = 3 ∧ M < 2048) ∨ (k = 4 ∧ M < 16)

theorem uvarint_next {M : Nat} (h : 128 ≤ M) : Lib.uvarint M = (M % 128 + 128).toUInt8 :: Lib.uvarint (M / 128) := Lib.uvarint_big h

theorem take_set {α : Type} {l : List α} {k : Nat} {E : List α} (h : l.take k = E) (hk : k < l.length) (v : α) : (l.set k v).take (k + 1) = E ++ [v] := by
  rw [List.take_succ_eq_append_getElem (by simpa using hk), List.take_set_of_le (Nat.le_refl _), h]
  simp

/-- What holds at the head of the loop. -/
def Var32 (p N : Nat) (tr og cf : Value) (s : CS) (w : World) (n i : Value) (wr : World) : Prop :=
  ∃ (k M : Nat) (z : Int) (E : List UInt8) (sc : List Value), n = .int .i32 z ∧ i = .int .i64 k ∧ z % 4294967296 = M ∧ Lib.uvarint N = E ++ Lib.uvarint M ∧ E.length = k ∧ Bd32 k M ∧ Cmp p tr og cf s sc wr ∧ sc.take k = Lib.byteCells E ∧ Step [p] [p] w wr

set_option maxRecDepth 100000 in
set_option maxHeartbeats 2000000 in
theorem cmp_writeVarint32 (p m b g : Nat) (og cf : Value) (s : CS) (sc : List Value) (l : List UInt8) (n : Int) (N : Nat) (w : World) (hp : Cmp p (memV m) og cf s sc w) (h : Mem m b g 0 (Lib.byteCells l) w) (hpm : p ≠ m) (hpb : p ≠ b) (hpg : p ≠ g)
    (hn : n % 4294967296 = N) (hlim : l.length + 5 ≤ 140737488355328) :
    Calls Tryz.prog 166 #[.pointer (some ⟨p, 0, none⟩), .int .i32 n] w fun e w' => e = .returned (.tuple #[.int .i64 (Lib.uvarint N).length, .nilIface]) ∧
      ∃ g1 sc1, Cmp p (memV m) og cf s sc1 w' ∧ Mem m b g1 0 (Lib.byteCells (l ++ Lib.uvarint N)) w' ∧ Step [p, b, g] [p, b, g1] w w' := by
  have hmeth := mem_Write
  have HN := Lib.hid hn
  have hst : Var32 p N (memV m) og cf s w (.int .i32 n) (.int .i64 0) w := ⟨0, N, n, [], sc, rfl, rfl, hn, by simp, rfl, .inl ⟨rfl, by omega⟩, hp, by simp [Lib.byteCells], Step.refl _ _⟩
  have HST := Lib.hid hst
  clear hst hn
  go_enter Tryz.func166, Tryz.ntmps166
  go_wp2
  go_loopw [1, 7] (fun n i wr => Var32 p N (memV m) og cf s w n i wr) (fun _ i _ => 5 - (intOf i).toNat)
  case atStart => exact HST.out
  case round =>
    obtain ⟨k, M, z, E, sc1, rfl, rfl, hz, hu, hE, hb, hc, ht, hs⟩ := hrel
    obtain ⟨v0, hv0, hf0⟩ := hc.cell k (by rcases hb with hb | hb | hb | hb | hb <;> omega)
    have hk4 : k ≤ 4 := by rcases hb with hb | hb | hb | hb | hb <;> omega
    have hA := i32_and_high hz
    have hB := i32_and_low hz
    have hC := i32_or128 (M % 128) (by omega)
    by_cases hM : M < 128
    · have hA' : (bits .and .i32 z (-128) == 0) = true := by rw [hA]; simpa using hM
      have H1 := Lib.hid hz
      have H2 := Lib.hid hu
      have H3 := Lib.hid hE
      have H4 := Lib.hid ht
      clear hA hB hC hz hu hE ht
      go_wp2
      have hzb : (z % 256) = ((M.toUInt8.toNat : Nat) : Int) := by
        have e := H1.out
        rw [show M.toUInt8.toNat = M % 256 from rfl]
        omega
      rw [hzb]
      obtain ⟨W, hW⟩ : ∃ W, W = wr.setCell ⟨p, 10 + k, none⟩ (.int .u8 (M.toUInt8.toNat : Nat)) := ⟨_, rfl⟩
      rw [← hW]
      have hc2 := hc.poke k (.int .u8 (M.toUInt8.toNat : Nat)) rfl
      have hs2 := hs.setCell (p := ⟨p, 10 + k, none⟩) (.inl (by simp)) (.int .u8 (M.toUInt8.toNat : Nat))
      rw [← hW] at hc2 hs2
      have hE2 : Lib.uvarint N = E ++ [M.toUInt8] := by rw [H2.out, Lib.uvarint_small hM]
      have hl2 : (Lib.uvarint N).length = k + 1 := by rw [hE2, List.length_append, H3.out]; rfl
      have ht2 : (sc1.set k (.int .u8 (M.toUInt8.toNat : Nat))).take (k + 1) = Lib.byteCells (Lib.uvarint N) := by
        rw [take_set H4.out (by rw [hc.2.1]; omega), hE2]; simp [Lib.byteCells]
      have h2 : Mem m b g 0 (Lib.byteCells l) W := h.step hs2 (by simp [Ne.symm hpm]) (by simp [Ne.symm hpb]) (by simp [Ne.symm hpg])
      have c0 : W.cell? ⟨p, 0, none⟩ = some (memV m) := by rw [hc2.cells]; rfl
      have cm := h2.cell
      have hsrc : ∀ j v', (Lib.byteCells (Lib.uvarint N))[j]? = some v' → W.cell? ((⟨p, 10, none⟩ : Addr).add j) = some v' := fun j v' hj => by
        rw [Lib.addr_add, hc2.cells, Nat.add_comm]
        simp only [CS.row, List.getElem?_cons_succ]
        rw [← ht2, List.getElem?_take] at hj
        split at hj
        · exact hj
        · cases hj
      have hbl : (Lib.byteCells (Lib.uvarint N)).length = k + 1 := by rw [Lib.byteCells_length, hl2]
      have hi1 : (0 : Int) ≤ (k : Int) + 1 := by omega
      have hi2 : (k : Int) + 1 ≤ 64 := by omega
      have HS := Lib.hid hsrc
      have HL := Lib.hid hbl
      have HL2 := Lib.hid hl2
      have HC := Lib.hid ht2
      have hlb : (Lib.byteCells l).length + (k + 1) ≤ 140737488355328 := by rw [Lib.byteCells_length]; omega
      clear hW hE2 hl2 ht2 hsrc hbl hzb hv0 hf0
      go_region_with ((go_at_call 55; refine (buf_write b g (k + 1) 64 (Lib.byteCells l) _ ⟨p, 10, none⟩ _ ?_ (Lib.byteCells_one _) HL.out hpb hpg ?_ ?_ (Lib.byteCells_one _) (by omega) hlb).mono ?_; exact h2.2.2.2; exact hc2.lt; exact HS.out; rintro e W2 ⟨rfl, g1, hB, hs3⟩))
      go_wp2
      go_ret2
      have hs4 : Step [b, g] [b, g1] W W2 := ((Step.refl _ _).drew).trans hs3
      refine ⟨by rw [HL2.out]; rfl, g1, _, hc2.step hs4 (by simp [hpb, hpg]), ?_, ?_⟩
      · have hM2 := h2.turn hB hs4
        rw [← Lib.byteCells_append] at hM2
        exact hM2
      · exact (hs2.more (S1 := [p, b, g]) (T1 := [p, b, g]) (by simp) (fun k hk => .inr (.inl hk))).trans (hs4.more (by simp) (fun k hk => by
          simp only [List.mem_cons, List.not_mem_nil, or_false] at hk ⊢
          omega))
    · have hA' : (bits .and .i32 z (-128) == 0) = false := by rw [hA]; simpa using hM
      have hb3 : k ≤ 3 := by rcases hb with hb | hb | hb | hb | hb <;> omega
      have H1 := Lib.hid hz
      have H2 := Lib.hid hu
      have H3 := Lib.hid hE
      have H4 := Lib.hid ht
      clear hA hz hu hE ht
      go_wp2
      go_roundw
      case rel =>
        have hv : bits .or .i32 ((M : Int) % 128) 128 % 256 = (((M % 128 + 128).toUInt8.toNat : Nat) : Int) := by
          have e0 : ((M % 128 : Nat) : Int) = (M : Int) % 128 := by omega
          rw [← e0, hC, show (M % 128 + 128).toUInt8.toNat = (M % 128 + 128) % 256 from rfl]
          omega
        rw [hv]
        refine ⟨k + 1, M / 128, _, E ++ [(M % 128 + 128).toUInt8], _, rfl, by go_num, ?_, ?_, ?_, ?_, hc.poke k _ rfl, ?_, hs.setCell (p := ⟨p, 10 + k, none⟩) (.inl (by simp)) _⟩
        · have := H1.out; omega
        · rw [H2.out, uvarint_next (by omega)]; simp
        · simp [H3.out]
        · unfold Bd32 at hb ⊢; omega
        · rw [take_set H4.out (by rw [hc.2.1]; omega)]; simp [Lib.byteCells]
      case measure => simp [intOf]; omega

end Go.Proofs.YtnpiheoglilcbaaGreatDoor

/-! The compact protocol over a memory buffer: a number of four bytes is written. -/
namespace Go.Proofs.YtnpiheoglilcbaaGreatDoor
open Go.RowKit Go.Deep
set_option linter.unusedVariables false
set_option linter.unusedSimpArgs false

set_option maxRecDepth 100000 in
set_option maxHeartbeats 2000000 in
theorem cmp_writeI32 (p m b g : Nat) (og cf : Value) (s : CS) (sc : List Value) (l : List UInt8) (cx : Value) (x : Int) (w : World) (hp : Cmp p (memV m) og cf s sc w) (h : Mem m b g 0 (Lib.byteCells l) w) (hpm : p ≠ m) (hpb : p ≠ b) (hpg : p ≠ g)
    (h0 : -2147483648 ≤ x) (h1 : x < 2147483648) (hlim : l.length + 5 ≤ 140737488355328) :
    Calls Tryz.prog 134 #[.pointer (some ⟨p, 0, none⟩), cx, .int .i32 x] w fun e w' => e = .returned .nilIface ∧
      ∃ g1 sc1, Cmp p (memV m) og cf s sc1 w' ∧ Mem m b g1 0 (Lib.byteCells (l ++ Lib.uvarint (Lib.zigzag x))) w' ∧ Step [p, b, g] [p, b, g1] w w' := by
  obtain ⟨hz, hz2⟩ := i32_zigzag x h0 h1
  have hn : (bits .xor .i32 (wrap32 (x * 2)) (x / 2147483648)) % 4294967296 = (Lib.zigzag x : Nat) := by
    have e : wrap32 (x * 2) = IntKind.i32.wrap (x * 2) := by rw [IntKind.wrap_i32]; unfold wrap32; omega
    rw [e, hz, IntKind.wrap_i32]
    omega
  have hW := cmp_writeVarint32 p m b g og cf s sc l _ _ w hp h hpm hpb hpg hn hlim
  have HW := Lib.hid hW
  clear hW hn hz
  go_enter Tryz.func134, Tryz.ntmps134
  go_wp2_with (first | (go_at_call 148; go_in))
  refine HW.out.mono ?_
  rintro e W1 ⟨rfl, g1, sc1, hc, hm, hs⟩
  go_wp2_with (first | (go_at_call 149; go_in))
  go_ret
  exact ⟨rfl, g1, sc1, hc, hm, hs⟩

end Go.Proofs.YtnpiheoglilcbaaGreatDoor

/-! Plain facts on the zig-zag codes of both widths: there and back. -/
namespace Go.Proofs.YtnpiheoglilcbaaGreatDoor
open Go.RowKit
set_option linter.unusedVariables false
set_option linter.unusedSimpArgs false

theorem u32_zigzag (x : Int) (h0 : -2147483648 ≤ x) (h1 : x < 2147483648) : bits .xor .u32 (IntKind.u32.wrap (IntKind.u32.wrap x * 2)) (IntKind.u32.wrap (x / 2147483648)) = (Lib.zigzag x : Int) := by
  by_cases hx : 0 ≤ x
  · have e : x / 2147483648 = 0 := by omega
    have ez : (Lib.zigzag x : Int) = 2 * x := by unfold Lib.zigzag; rw [if_pos hx]; omega
    rw [e, ez]
    simp only [bits]
    rw [show BitVec.ofInt IntKind.u32.bits (IntKind.u32.wrap 0) = 0#_ from by decide, BitVec.xor_zero, bitsOf]
    show IntKind.u32.wrap ((IntKind.u32.wrap (IntKind.u32.wrap x * 2) % 4294967296).toNat : Int) = _
    simp only [IntKind.wrap_u32]
    omega
  · have e : x / 2147483648 = -1 := by omega
    have ez : (Lib.zigzag x : Int) = -2 * x - 1 := by unfold Lib.zigzag; rw [if_neg hx]; omega
    rw [e, ez]
    simp only [bits]
    rw [show BitVec.ofInt IntKind.u32.bits (IntKind.u32.wrap (-1)) = BitVec.allOnes _ from by decide, BitVec.xor_allOnes, BitVec.toNat_not, bitsOf]
    show IntKind.u32.wrap ((4294967296 - 1 - (IntKind.u32.wrap (IntKind.u32.wrap x * 2) % 4294967296).toNat : Nat) : Int) = _
    simp only [IntKind.wrap_u32]
    omega

theorem i32_one (x : Int) : bits .and .i32 x 1 = x % 2 := by
  obtain ⟨n, hn⟩ : ∃ n : Nat, x % 4294967296 = n := ⟨(x % 4294967296).toNat, by omega⟩
  have e : bits .and .i32 x 1 = IntKind.i32.wrap ((n &&& 1 : Nat) : Int) := by
    simp only [bits, BitVec.toNat_and, bitsOf]
    have e1 : (x % (2 : Int) ^ IntKind.i32.bits).toNat = n := by show (x % 4294967296).toNat = n; omega
    have e2 : ((1 : Int) % (2 : Int) ^ IntKind.i32.bits).toNat = 1 := by decide
    rw [e1, e2]
  rw [e, show n &&& 1 = n % 2 from Nat.and_two_pow_sub_one_eq_mod n 1, IntKind.wrap_i32]
  omega

/-- The number that a zig-zag code of 32 bits stands for. -/
def unz32 (n : Int) : Int := if n % 2 = 0 then n % 4294967296 / 2 else -(n % 4294967296 / 2) - 1

theorem i32_unzigzag (x : Int) : bits .xor .i32 (IntKind.i32.wrap (IntKind.u32.wrap x / 2)) (IntKind.i32.wrap (-(x % 2))) = unz32 x := by
  unfold unz32
  by_cases hx : x % 2 = 0
  · rw [if_pos hx, hx]
    simp only [bits]
    rw [show BitVec.ofInt IntKind.i32.bits (IntKind.i32.wrap (-0)) = 0#_ from by decide, BitVec.xor_zero, bitsOf]
    show IntKind.i32.wrap ((IntKind.i32.wrap (IntKind.u32.wrap x / 2) % 4294967296).toNat : Int) = _
    simp only [IntKind.wrap_i32, IntKind.wrap_u32]
    omega
  · rw [if_neg hx, show x % 2 = 1 by omega]
    simp only [bits]
    rw [show BitVec.ofInt IntKind.i32.bits (IntKind.i32.wrap (-1)) = BitVec.allOnes _ from by decide, BitVec.xor_allOnes, BitVec.toNat_not, bitsOf]
    show IntKind.i32.wrap ((4294967296 - 1 - (IntKind.i32.wrap (IntKind.u32.wrap x / 2) % 4294967296).toNat : Nat) : Int) = _
    simp only [IntKind.wrap_i32, IntKind.wrap_u32]
    omega

theorem unz32_wrap (x : Int) : unz32 (IntKind.i32.wrap x) = unz32 x := by
  unfold unz32
  simp only [IntKind.wrap_i32]
  split <;> split <;> omega

theorem unz32_zigzag (x : Int) (h0 : -2147483648 ≤ x) (h1 : x < 2147483648) : unz32 (IntKind.i32.wrap (Lib.zigzag x : Int)) = x := by
  rw [unz32_wrap]
  unfold unz32 Lib.zigzag
  split <;> split <;> omega

theorem zigzag_unz32 (x : Int) (h0 : -2147483648 ≤ x) (h1 : x < 2147483648) : IntKind.i32.wrap (Lib.zigzag (unz32 x) : Int) = x := by
  unfold unz32 Lib.zigzag
  simp only [IntKind.wrap_i32]
  split <;> split <;> omega

theorem unz32_range (x : Int) : -2147483648 ≤ unz32 x ∧ unz32 x < 2147483648 := by
  unfold unz32
  split <;> omega

theorem u64_zigzag (x : Int) (h0 : -9223372036854775808 ≤ x) (h1 : x < 9223372036854775808) : bits .xor .u64 (IntKind.u64.wrap (IntKind.u64.wrap x * 2)) (IntKind.u64.wrap (x / 9223372036854775808)) = (Lib.zigzag x : Int) := by
  by_cases hx : 0 ≤ x
  · have e : x / 9223372036854775808 = 0 := by omega
    have ez : (Lib.zigzag x : Int) = 2 * x := by unfold Lib.zigzag; rw [if_pos hx]; omega
    rw [e, ez]
    simp only [bits]
    rw [show BitVec.ofInt IntKind.u64.bits (IntKind.u64.wrap 0) = 0#_ from by decide, BitVec.xor_zero, bitsOf]
    show IntKind.u64.wrap ((IntKind.u64.wrap (IntKind.u64.wrap x * 2) % 18446744073709551616).toNat : Int) = _
    simp only [IntKind.wrap_u64]
    omega
  · have e : x / 9223372036854775808 = -1 := by omega
    have ez : (Lib.zigzag x : Int) = -2 * x - 1 := by unfold Lib.zigzag; rw [if_neg hx]; omega
    rw [e, ez]
    simp only [bits]
    rw [show BitVec.ofInt IntKind.u64.bits (IntKind.u64.wrap (-1)) = BitVec.allOnes _ from by decide, BitVec.xor_allOnes, BitVec.toNat_not, bitsOf]
    show IntKind.u64.wrap ((18446744073709551616 - 1 - (IntKind.u64.wrap (IntKind.u64.wrap x * 2) % 18446744073709551616).toNat : Nat) : Int) = _
    simp only [IntKind.wrap_u64]
    omega

theorem i64_one (x : Int) : bits .and .i64 x 1 = x % 2 := by
  obtain ⟨n, hn⟩ : ∃ n : Nat, x % 18446744073709551616 = n := ⟨(x % 18446744073709551616).toNat, by omega⟩
  have e : bits .and .i64 x 1 = IntKind.i64.wrap ((n &&& 1 : Nat) : Int) := by
    simp only [bits, BitVec.toNat_and, bitsOf]
    have e1 : (x % (2 : Int) ^ IntKind.i64.bits).toNat = n := by show (x % 18446744073709551616).toNat = n; omega
    have e2 : ((1 : Int) % (2 : Int) ^ IntKind.i64.bits).toNat = 1 := by decide
    rw [e1, e2]
  rw [e, show n &&& 1 = n % 2 from Nat.and_two_pow_sub_one_eq_mod n 1, IntKind.wrap_i64]
  omega

/-- The number that a zig-zag code of 64 bits stands for. -/
def unz64 (n : Int) : Int := if n % 2 = 0 then n % 18446744073709551616 / 2 else -(n % 18446744073709551616 / 2) - 1

theorem i64_unzigzag (x : Int) : bits .xor .i64 (IntKind.i64.wrap (IntKind.u64.wrap x / 2)) (IntKind.i64.wrap (-(x % 2))) = unz64 x := by
  unfold unz64
  by_cases hx : x % 2 = 0
  · rw [if_pos hx, hx]
    simp only [bits]
    rw [show BitVec.ofInt IntKind.i64.bits (IntKind.i64.wrap (-0)) = 0#_ from by decide, BitVec.xor_zero, bitsOf]
    show IntKind.i64.wrap ((IntKind.i64.wrap (IntKind.u64.wrap x / 2) % 18446744073709551616).toNat : Int) = _
    simp only [IntKind.wrap_i64, IntKind.wrap_u64]
    omega
  · rw [if_neg hx, show x % 2 = 1 by omega]
    simp only [bits]
    rw [show BitVec.ofInt IntKind.i64.bits (IntKind.i64.wrap (-1)) = BitVec.allOnes _ from by decide, BitVec.xor_allOnes, BitVec.toNat_not, bitsOf]
    show IntKind.i64.wrap ((18446744073709551616 - 1 - (IntKind.i64.wrap (IntKind.u64.wrap x / 2) % 18446744073709551616).toNat : Nat) : Int) = _
    simp only [IntKind.wrap_i64, IntKind.wrap_u64]
    omega

theorem unz64_wrap (x : Int) : unz64 (IntKind.i64.wrap x) = unz64 x := by
  unfold unz64
  simp only [IntKind.wrap_i64]
  split <;> split <;> omega

theorem unz64_zigzag (x : Int) (h0 : -9223372036854775808 ≤ x) (h1 : x < 9223372036854775808) : unz64 (IntKind.i64.wrap (Lib.zigzag x : Int)) = x := by
  rw [unz64_wrap]
  unfold unz64 Lib.zigzag
  split <;> split <;> omega

theorem zigzag_unz64 (x : Int) (h0 : -9223372036854775808 ≤ x) (h1 : x < 9223372036854775808) : IntKind.i64.wrap (Lib.zigzag (unz64 x) : Int) = x := by
  unfold unz64 Lib.zigzag
  simp only [IntKind.wrap_i64]
  split <;> split <;> omega

theorem unz64_range (x : Int) : -9223372036854775808 ≤ unz64 x ∧ unz64 x < 9223372036854775808 := by
  unfold unz64
  split <;> omega

end Go.Proofs.YtnpiheoglilcbaaGreatDoor

/-! The compact protocol over a memory buffer: a number of eight bytes is written by seven bits a byte. Printed by a program (wip/tools/e64.py). -/
namespace Go.Proofs.YtnpiheoglilcbaaGreatDoor
open Go.RowKit Go.Deep
set_option linter.unusedVariables false
set_option linter.unusedSimpArgs false

/-- The bounds of what is left of a number of 64 bits. -/
def Bd64 (k M : Nat) : Prop := (k = 0 ∧ M < 18446744073709551616) ∨ (k = 1 ∧ M < 144115188075855872) ∨ (k = 2 ∧ M < 1125899906842624) ∨ (k = 3 ∧ M < 8796093022208) ∨ (k = 4 ∧ M < 68719476736) ∨ (k = 5 ∧ M < 536870912) ∨ (k = 6 ∧ M < 4194304) ∨ (k = 7 ∧ M < 32768) ∨ (k = 8 ∧ M < 256) ∨ (k = 9 ∧ M < 2)

theorem bd64_le {k M : Nat} (h : Bd64 k M) : k ≤ 9 := by unfold Bd64 at h; omega
theorem bd64_hi {k M : Nat} (h : Bd64 k M) (hM : 128 ≤ M) : k ≤ 8 := by unfold Bd64 at h; omega
theorem bd64_next {k M : Nat} (h : Bd64 k M) (hM : 128 ≤ M) : Bd64 (k + 1) (M / 128) := by
  unfold Bd64 at h ⊢
  rcases h with ⟨rfl, h⟩ | ⟨rfl, h⟩ | ⟨rfl, h⟩ | ⟨rfl, h⟩ | ⟨rfl, h⟩ | ⟨rfl, h⟩ | ⟨rfl, h⟩ | ⟨rfl, h⟩ | ⟨rfl, h⟩ | ⟨rfl, h⟩ <;> simp <;> omega
theorem bd64_start {n : Int} {N : Nat} (h : n % 18446744073709551616 = N) : Bd64 0 N := by unfold Bd64; omega

/-- What holds at the head of the loop. -/
def Var64 (p N : Nat) (tr og cf : Value) (s : CS) (w : World) (n i : Value) (wr : World) : Prop :=
  ∃ (k M : Nat) (z : Int) (E : List UInt8) (sc : List Value), n = .int .i64 z ∧ i = .int .i64 k ∧ z % 18446744073709551616 = M ∧ Lib.uvarint N = E ++ Lib.uvarint M ∧ E.length = k ∧ Bd64 k M ∧ Cmp p tr og cf s sc wr ∧ sc.take k = Lib.byteCells E ∧ Step [p] [p] w wr

set_option maxRecDepth 100000 in
set_option maxHeartbeats 2000000 in
theorem cmp_writeVarint64 (p m b g : Nat) (og cf : Value) (s : CS) (sc : List Value) (l : List UInt8) (n : Int) (N : Nat) (w : World) (hp : Cmp p (memV m) og cf s sc w) (h : Mem m b g 0 (Lib.byteCells l) w) (hpm : p ≠ m) (hpb : p ≠ b) (hpg : p ≠ g)
    (hn : n % 18446744073709551616 = N) (hlim : l.length + 10 ≤ 140737488355328) :
    Calls Tryz.prog 170 #[.pointer (some ⟨p, 0, none⟩), .int .i64 n] w fun e w' => e = .returned (.tuple #[.int .i64 (Lib.uvarint N).length, .nilIface]) ∧
      ∃ g1 sc1, Cmp p (memV m) og cf s sc1 w' ∧ Mem m b g1 0 (Lib.byteCells (l ++ Lib.uvarint N)) w' ∧ Step [p, b, g] [p, b, g1] w w' := by
  have hmeth := mem_Write
  have HN := Lib.hid hn
  have hst : Var64 p N (memV m) og cf s w (.int .i64 n) (.int .i64 0) w := ⟨0, N, n, [], sc, rfl, rfl, hn, by simp, rfl, bd64_start hn, hp, by simp [Lib.byteCells], Step.refl _ _⟩
  have HST := Lib.hid hst
  clear hst hn
  go_enter Tryz.func170, Tryz.ntmps170
  go_wp2
  go_loopw [1, 7] (fun n i wr => Var64 p N (memV m) og cf s w n i wr) (fun _ i _ => 10 - (intOf i).toNat)
  case atStart => exact HST.out
  case round =>
    obtain ⟨k, M, z, E, sc1, rfl, rfl, hz, hu, hE, hb, hc, ht, hs⟩ := hrel
    obtain ⟨v0, hv0, hf0⟩ := hc.cell k (by have := bd64_le hb; omega)
    have hk4 : k ≤ 9 := bd64_le hb
    have hA := i64_and_high hz
    have hB := i64_and_low hz
    have hC := i64_or128 (M % 128) (by omega)
    by_cases hM : M < 128
    · have hA' : (bits .and .i64 z (-128) == 0) = true := by rw [hA]; simpa using hM
      have H1 := Lib.hid hz
      have H2 := Lib.hid hu
      have H3 := Lib.hid hE
      have H4 := Lib.hid ht
      clear hA hB hC hz hu hE ht
      go_wp2
      have hzb : (z % 256) = ((M.toUInt8.toNat : Nat) : Int) := by
        have e := H1.out
        rw [show M.toUInt8.toNat = M % 256 from rfl]
        omega
      rw [hzb]
      obtain ⟨W, hW⟩ : ∃ W, W = wr.setCell ⟨p, 10 + k, none⟩ (.int .u8 (M.toUInt8.toNat : Nat)) := ⟨_, rfl⟩
      rw [← hW]
      have hc2 := hc.poke k (.int .u8 (M.toUInt8.toNat : Nat)) rfl
      have hs2 := hs.setCell (p := ⟨p, 10 + k, none⟩) (.inl (by simp)) (.int .u8 (M.toUInt8.toNat : Nat))
      rw [← hW] at hc2 hs2
      have hE2 : Lib.uvarint N = E ++ [M.toUInt8] := by rw [H2.out, Lib.uvarint_small hM]
      have hl2 : (Lib.uvarint N).length = k + 1 := by rw [hE2, List.length_append, H3.out]; rfl
      have ht2 : (sc1.set k (.int .u8 (M.toUInt8.toNat : Nat))).take (k + 1) = Lib.byteCells (Lib.uvarint N) := by
        rw [take_set H4.out (by rw [hc.2.1]; omega), hE2]; simp [Lib.byteCells]
      have h2 : Mem m b g 0 (Lib.byteCells l) W := h.step hs2 (by simp [Ne.symm hpm]) (by simp [Ne.symm hpb]) (by simp [Ne.symm hpg])
      have c0 : W.cell? ⟨p, 0, none⟩ = some (memV m) := by rw [hc2.cells]; rfl
      have cm := h2.cell
      have hsrc : ∀ j v', (Lib.byteCells (Lib.uvarint N))[j]? = some v' → W.cell? ((⟨p, 10, none⟩ : Addr).add j) = some v' := fun j v' hj => by
        rw [Lib.addr_add, hc2.cells, Nat.add_comm]
        simp only [CS.row, List.getElem?_cons_succ]
        rw [← ht2, List.getElem?_take] at hj
        split at hj
        · exact hj
        · cases hj
      have hbl : (Lib.byteCells (Lib.uvarint N)).length = k + 1 := by rw [Lib.byteCells_length, hl2]
      have hi1 : (0 : Int) ≤ (k : Int) + 1 := by omega
      have hi2 : (k : Int) + 1 ≤ 64 := by omega
      have HS := Lib.hid hsrc
      have HL := Lib.hid hbl
      have HL2 := Lib.hid hl2
      have HC := Lib.hid ht2
      have hlb : (Lib.byteCells l).length + (k + 1) ≤ 140737488355328 := by rw [Lib.byteCells_length]; omega
      clear hW hE2 hl2 ht2 hsrc hbl hzb hv0 hf0
      go_region_with ((go_at_call 55; refine (buf_write b g (k + 1) 64 (Lib.byteCells l) _ ⟨p, 10, none⟩ _ ?_ (Lib.byteCells_one _) HL.out hpb hpg ?_ ?_ (Lib.byteCells_one _) (by omega) hlb).mono ?_; exact h2.2.2.2; exact hc2.lt; exact HS.out; rintro e W2 ⟨rfl, g1, hB, hs3⟩))
      go_wp2
      go_ret2
      have hs4 : Step [b, g] [b, g1] W W2 := ((Step.refl _ _).drew).trans hs3
      refine ⟨by rw [HL2.out]; rfl, g1, _, hc2.step hs4 (by simp [hpb, hpg]), ?_, ?_⟩
      · have hM2 := h2.turn hB hs4
        rw [← Lib.byteCells_append] at hM2
        exact hM2
      · exact (hs2.more (S1 := [p, b, g]) (T1 := [p, b, g]) (by simp) (fun k hk => .inr (.inl hk))).trans (hs4.more (by simp) (fun k hk => by
          simp only [List.mem_cons, List.not_mem_nil, or_false] at hk ⊢
          omega))
    · have hA' : (bits .and .i64 z (-128) == 0) = false := by rw [hA]; simpa using hM
      have hb3 : k ≤ 8 := bd64_hi hb (by omega)
      have H1 := Lib.hid hz
      have H2 := Lib.hid hu
      have H3 := Lib.hid hE
      have H4 := Lib.hid ht
      clear hA hz hu hE ht
      go_wp2
      go_roundw
      case rel =>
        have hv : bits .or .i64 ((M : Int) % 128) 128 % 256 = (((M % 128 + 128).toUInt8.toNat : Nat) : Int) := by
          have e0 : ((M % 128 : Nat) : Int) = (M : Int) % 128 := by omega
          rw [← e0, hC, show (M % 128 + 128).toUInt8.toNat = (M % 128 + 128) % 256 from rfl]
          omega
        rw [hv]
        refine ⟨k + 1, M / 128, _, E ++ [(M % 128 + 128).toUInt8], _, rfl, by go_num, ?_, ?_, ?_, ?_, hc.poke k _ rfl, ?_, hs.setCell (p := ⟨p, 10 + k, none⟩) (.inl (by simp)) _⟩
        · have := H1.out
          rw [IntKind.wrap_u64]
          unfold wrap64
          omega
        · rw [H2.out, uvarint_next (by omega)]; simp
        · simp [H3.out]
        · exact bd64_next hb (by omega)
        · rw [take_set H4.out (by rw [hc.2.1]; omega)]; simp [Lib.byteCells]
      case measure => simp [intOf]; omega

end Go.Proofs.YtnpiheoglilcbaaGreatDoor

/-! The thin package's pieces around a protocol: a new memory buffer, a protocol over it, where no configuration is given. -/
namespace Go.Proofs.YtnpiheoglilcbaaGreatDoor
open Go.RowKit Go.Deep
set_option linter.unusedVariables false
set_option linter.unusedSimpArgs false

/-- A configuration of which nothing is told but the protocol. -/
abbrev confPlain (proto : Int) : Value := .agg #[.int .i64 proto, .bool true, .bool false, .bool false, .int .i32 0, .int .i32 0, .int .i32 0]

theorem mem_isRich (m : Nat) (w : World) : (Instr.typeAssert (memV m) 115 140 true).run Tryz.prog w = .ok (.tuple #[memV m, .bool true]) w := by kernel_rfl

theorem zeroBin : ∃ sc : List Value, Tryz.zeroCells145 = (.nilIface :: .nilIface :: .pointer none :: sc).toArray ∧ sc.length = 64 ∧ ∀ v ∈ sc, v.oneCell' = true :=
  ⟨List.replicate 64 (.int .u8 0), by kernel_rfl, by simp, fun v hv => by rw [(List.mem_replicate.1 hv).2]; rfl⟩

set_option maxRecDepth 100000 in
set_option maxHeartbeats 2000000 in
theorem protocol_bin (m b g off : Nat) (bs : List Value) (w : World) (h : Mem m b g off bs w) :
    Calls Tryz.prog 27 #[confPlain 0, memV m] w fun e w' => ∃ p sc, e = .returned (.iface 120 (.pointer (some ⟨p, 0, none⟩))) ∧ w.heap.size ≤ p ∧
      Bin p (memV m) (memV m) (.pointer none) sc w' ∧ Below w.heap.size w w' := by
  have hta := mem_isRich
  go_enter Tryz.func27, Tryz.ntmps27
  go_wp2
  refine bodyPost_ret (results_none rfl _ _ _) rfl ?_
  go_wp2
  go_ret
  obtain ⟨sc, hz, hl, h1⟩ := zeroBin
  refine ⟨w.heap.size + 1 + 1, sc, rfl, by omega, ⟨?_, hl, h1⟩, ?_⟩
  · refine (heap_alloc_at (by simp) _).trans ?_
    rw [hz]; simp
  · exact (((Below.refl _ _).alloc (by simp) _).alloc (by simp <;> omega) _).alloc (by simp <;> omega) _

/-- A compact protocol as it is made. -/
def CS0 : CS := { lf := .slice none 0 0, last := 0, nm := .string ByteArray.empty, bid := 0, bp := false, bv := false, bn := false }

theorem zeroCmp : ∃ sc : List Value, Tryz.zeroCells143 = (CS.row .nilIface .nilIface (.pointer none) CS0 sc).toArray ∧ sc.length = 64 ∧ ∀ v ∈ sc, v.oneCell' = true :=
  ⟨List.replicate 64 (.int .u8 0), by kernel_rfl, by simp, fun v hv => by rw [(List.mem_replicate.1 hv).2]; rfl⟩

set_option maxRecDepth 100000 in
set_option maxHeartbeats 2000000 in
theorem protocol_cmp (m b g off : Nat) (bs : List Value) (w : World) (h : Mem m b g off bs w) :
    Calls Tryz.prog 27 #[confPlain 1, memV m] w fun e w' => ∃ p sc, e = .returned (.iface 116 (.pointer (some ⟨p, 0, none⟩))) ∧ w.heap.size ≤ p ∧
      Cmp p (memV m) (memV m) (.pointer none) CS0 sc w' ∧ Below w.heap.size w w' := by
  have hta := mem_isRich
  go_enter Tryz.func27, Tryz.ntmps27
  go_wp2
  refine bodyPost_ret (results_none rfl _ _ _) rfl ?_
  go_wp2
  go_ret
  obtain ⟨sc, hz, hl, h1⟩ := zeroCmp
  refine ⟨w.heap.size + 1 + 1, sc, rfl, by omega, ⟨?_, hl, h1⟩, ?_⟩
  · refine (heap_alloc_at (by simp) _).trans ?_
    rw [hz]; simp [CS.row]
  · exact (((Below.refl _ _).alloc (by simp) _).alloc (by simp <;> omega) _).alloc (by simp <;> omega) _

abbrev binV (p : Nat) : Value := .iface 120 (.pointer (some ⟨p, 0, none⟩))
abbrev cmpV (p : Nat) : Value := .iface 116 (.pointer (some ⟨p, 0, none⟩))

theorem bin_m_WriteI32 (k p : Nat) (w : World) : (method (k + 1) 120 (.pointer (some ⟨p, 0, none⟩)) "WriteI32").run Tryz.prog w = .ok (215, .pointer (some ⟨p, 0, none⟩)) w := by kernel_rfl
theorem bin_n_WriteI32 (k p : Nat) (w : World) : (nilAhead (k + 1) 120 (.pointer (some ⟨p, 0, none⟩)) "WriteI32").run Tryz.prog w = .ok (some false) w := by kernel_rfl
theorem cmp_m_WriteI32 (k p : Nat) (w : World) : (method (k + 1) 116 (.pointer (some ⟨p, 0, none⟩)) "WriteI32").run Tryz.prog w = .ok (134, .pointer (some ⟨p, 0, none⟩)) w := by kernel_rfl
theorem cmp_n_WriteI32 (k p : Nat) (w : World) : (nilAhead (k + 1) 116 (.pointer (some ⟨p, 0, none⟩)) "WriteI32").run Tryz.prog w = .ok (some false) w := by kernel_rfl

theorem ctx_any (w : World) : Calls Tryz.prog 33 #[] w fun e w' => e = .returned ctxV ∧ w = w' := by
  go_enter Tryz.func33, Tryz.ntmps33
  go_wp2
  go_ret
  exact ⟨rfl, rfl⟩

/-- A value of numbers of four bytes. -/
abbrev i32V (n : Int) : Value := .agg #[.int .i64 8, .int .i64 n, .slice none 0 0, .int .i64 0, .int .i64 0, .slice none 0 0, .slice none 0 0]

end Go.Proofs.YtnpiheoglilcbaaGreatDoor

/-! A value of the type of numbers of four bytes is put by each protocol. -/
namespace Go.Proofs.YtnpiheoglilcbaaGreatDoor
open Go.RowKit Go.Deep
set_option linter.unusedVariables false
set_option linter.unusedSimpArgs false

set_option maxRecDepth 100000 in
set_option maxHeartbeats 4000000 in
theorem put_bin_i32 (p m b g : Nat) (og cf : Value) (sc : List Value) (l : List UInt8) (x : Int) (w : World) (hp : Bin p (memV m) og cf sc w) (h : Mem m b g 0 (Lib.byteCells l) w) (hpm : p ≠ m) (hpb : p ≠ b) (hpg : p ≠ g) (h0 : -2147483648 ≤ x) (h1 : x < 2147483648)
    (hlim : l.length + 4 ≤ 140737488355328) :
    Calls Tryz.prog 26 #[binV p, i32V x] w fun e w' => e = .returned .nilIface ∧ ∃ g1 sc1, Bin p (memV m) og cf sc1 w' ∧ Mem m b g1 0 (Lib.byteCells (l ++ Lib.beBytes 4 (x % 4294967296).toNat)) w' ∧ Step [p, b, g] [p, b, g1] w w' := by
  have hmeth := bin_m_WriteI32
  have hnil := bin_n_WriteI32
  have hc := ctx_any
  have ha : ∀ c, Bin p (memV m) og cf sc (w.alloc c).drew := fun c => Bin.drewN (hp.alloc c) 1
  have hb : ∀ c, Mem m b g 0 (Lib.byteCells l) (w.alloc c).drew := fun c => Mem.drewN (h.alloc c) 1
  have hs0 : ∀ c, Step [p, b, g] [p, b, g] w (w.alloc c).drew := fun c => ((Step.refl _ _).alloc c).drew
  have hpl := hp.lt
  have hbl := h.2.2.2.lt
  have HA := Lib.hid ha
  have HB := Lib.hid hb
  have HS := Lib.hid hs0
  have HL := Lib.hid (show (Lib.byteCells l).length + 4 ≤ 140737488355328 by simp only [Lib.byteCells_length]; omega)
  have hwrap : IntKind.i32.wrap x = x := by rw [IntKind.wrap_i32]; omega
  clear ha hb hs0
  go_enter Tryz.func26, Tryz.ntmps26
  go_wp2_with (first | (go_at_call 31; go_in))
  go_region_held3 (fun W' => W'.cell? ⟨w.heap.size, 1, none⟩ = some (.int .i64 x)) (first | assumption | (simp [go_sem]))
    (first
      | (go_at_call 33; refine (hc _).mono ?_; rintro e w' ⟨rfl, rfl⟩)
      | (go_at_call 215; refine (bin_writeI32 p m b g og cf sc (Lib.byteCells l) ctxV x _ ?_ ?_ hpm hpb hpg (Lib.byteCells_one _) HL.out).mono ?_; exact HA.out _; exact HB.out _; rintro e W1 ⟨rfl, g1, sc1, hP, hM, hs⟩; have hx1 := (hs.cell (p := ⟨w.heap.size, 1, none⟩) (by simp) (by simp; omega)).trans (cell_heap (heap_alloc_new _ _) 1)))
  all_goals go_wp2
  all_goals go_ret
  all_goals (
    refine ⟨rfl, g1, sc1, hP, ?_, (HS.out _).trans (hs.more (by simp) ?_)⟩
    · rw [Lib.byteCells_append]; exact hM
    · intro k hk
      simp only [List.mem_cons, List.not_mem_nil, or_false] at hk ⊢
      omega)

end Go.Proofs.YtnpiheoglilcbaaGreatDoor

/-! The same by the compact protocol. -/
namespace Go.Proofs.YtnpiheoglilcbaaGreatDoor
open Go.RowKit Go.Deep
set_option linter.unusedVariables false
set_option linter.unusedSimpArgs false

set_option maxRecDepth 100000 in
set_option maxHeartbeats 4000000 in
theorem put_cmp_i32 (p m b g : Nat) (og cf : Value) (s : CS) (sc : List Value) (l : List UInt8) (x : Int) (w : World) (hp : Cmp p (memV m) og cf s sc w) (h : Mem m b g 0 (Lib.byteCells l) w) (hpm : p ≠ m) (hpb : p ≠ b) (hpg : p ≠ g) (h0 : -2147483648 ≤ x) (h1 : x < 2147483648)
    (hlim : l.length + 5 ≤ 140737488355328) :
    Calls Tryz.prog 26 #[cmpV p, i32V x] w fun e w' => e = .returned .nilIface ∧ ∃ g1 sc1, Cmp p (memV m) og cf s sc1 w' ∧ Mem m b g1 0 (Lib.byteCells (l ++ Lib.uvarint (Lib.zigzag x))) w' ∧ Step [p, b, g] [p, b, g1] w w' := by
  have hmeth := cmp_m_WriteI32
  have hnil := cmp_n_WriteI32
  have hc := ctx_any
  have ha : ∀ c, Cmp p (memV m) og cf s sc (w.alloc c).drew := fun c => Cmp.drewN (hp.alloc c) 1
  have hb : ∀ c, Mem m b g 0 (Lib.byteCells l) (w.alloc c).drew := fun c => Mem.drewN (h.alloc c) 1
  have hs0 : ∀ c, Step [p, b, g] [p, b, g] w (w.alloc c).drew := fun c => ((Step.refl _ _).alloc c).drew
  have hpl := hp.lt
  have hbl := h.2.2.2.lt
  have HA := Lib.hid ha
  have HB := Lib.hid hb
  have HS := Lib.hid hs0
  have hwrap : IntKind.i32.wrap x = x := by rw [IntKind.wrap_i32]; omega
  clear ha hb hs0
  go_enter Tryz.func26, Tryz.ntmps26
  go_wp2_with (first | (go_at_call 31; go_in))
  go_region_held3 (fun W' => W'.cell? ⟨w.heap.size, 1, none⟩ = some (.int .i64 x)) (first | assumption | (simp [go_sem]))
    (first
      | (go_at_call 33; refine (hc _).mono ?_; rintro e w' ⟨rfl, rfl⟩)
      | (go_at_call 134; refine (cmp_writeI32 p m b g og cf s sc l ctxV x _ ?_ ?_ hpm hpb hpg h0 h1 hlim).mono ?_; exact HA.out _; exact HB.out _; rintro e W1 ⟨rfl, g1, sc1, hP, hM, hs⟩; have hx1 := (hs.cell (p := ⟨w.heap.size, 1, none⟩) (by simp) (by simp; omega)).trans (cell_heap (heap_alloc_new _ _) 1)))
  all_goals go_wp2
  all_goals go_ret
  all_goals (
    refine ⟨rfl, g1, sc1, hP, ?_, (HS.out _).trans (hs.more (by simp) ?_)⟩
    · exact hM
    · intro k hk
      simp only [List.mem_cons, List.not_mem_nil, or_false] at hk ⊢
      omega)

end Go.Proofs.YtnpiheoglilcbaaGreatDoor

/-! A new memory buffer; one that holds given bytes; a value of numbers of four bytes put by a protocol over a new memory buffer. -/
namespace Go.Proofs.YtnpiheoglilcbaaGreatDoor
open Go.RowKit Go.Deep
set_option linter.unusedVariables false
set_option linter.unusedSimpArgs false

theorem below_drewN {B : Nat} {a w : World} (h : Below B a w) (n : Nat) : Below B a (w.drewN n) := ⟨h.os, h.tape, h.output, h.size, h.block⟩

theorem kind_nil (w : World) : Calls Tryz.prog 29 #[.nilIface] w fun e w' => e = .returned (.int .i64 0) ∧ w = w' := by
  go_enter Tryz.func29, Tryz.ntmps29
  go_wp2
  go_ret
  exact ⟨rfl, rfl⟩

theorem newMem (w : World) : Calls Tryz.prog 25 #[] w fun e w' => ∃ m b, e = .returned (.pointer (some ⟨m, 0, none⟩)) ∧ w.heap.size ≤ m ∧ w.heap.size ≤ b ∧ Mem m b b 0 [] w' ∧ Below w.heap.size w w' := by
  go_enter Tryz.func25, Tryz.ntmps25
  go_wp2
  go_ret
  refine ⟨w.heap.size + 1, w.heap.size, rfl, by omega, by omega, ⟨⟨0, ?_⟩, by omega, by omega, 0, .inl ⟨?_, rfl, rfl, rfl⟩⟩, ?_⟩
  · exact heap_alloc_at (by simp) _
  · exact heap_alloc_old (heap_alloc_new _ _) _
  · exact ((Below.refl _ _).alloc (by simp) _).alloc (by simp <;> omega) _

set_option maxRecDepth 100000 in
set_option maxHeartbeats 4000000 in
theorem holding_any (n c : Nat) (cs : List Value) (a : Addr) (w : World) (hn : cs.length = n) (hal : a.block < w.heap.size) (hsrc : ∀ j v, cs[j]? = some v → w.cell? (a.add j) = some v) (h1c : ∀ v ∈ cs, v.oneCell' = true) (hn1 : 1 ≤ n) (hlim : n ≤ 140737488355328) :
    Calls Tryz.prog 41 #[.slice (some a) n c] w fun e w' => ∃ m b g, e = .returned (.pointer (some ⟨m, 0, none⟩)) ∧ w.heap.size ≤ m ∧ w.heap.size ≤ b ∧ w.heap.size ≤ g ∧ Mem m b g 0 cs w' ∧ Below w.heap.size w w' := by
  go_enter Tryz.func41, Tryz.ntmps41
  go_wp2_with (go_at_call 25; refine (newMem _).mono ?_)
  rintro e W1 ⟨m, b, rfl, hm, hb, hM, hB⟩
  have cm := hM.cell
  have hsrc1 : ∀ j v, cs[j]? = some v → W1.cell? (a.add j) = some v := fun j v hj => (World.cell?_of_block (w := w) (a := a.add j) (hB.block _ (by rw [Lib.block_add]; exact hal))).trans (hsrc j v hj)
  have HS := Lib.hid hsrc1
  have hbk := hB.size
  clear hsrc hsrc1
  go_wp2_with (go_at_call 55; refine (buf_write b b n c [] cs a _ hM.2.2.2 (by simp) hn (by omega) (by omega) (by omega) HS.out h1c hn1 (by simpa using hlim)).mono ?_)
  rintro e W2 ⟨rfl, g1, hU, hs⟩
  go_wp2
  go_ret
  refine ⟨m, b, g1, rfl, hm, hb, ?_, by simpa using hM.turn hU hs, hB.trans (hs.below _ hbk (by simp [hb]))⟩
  rcases hs.own g1 (by simp) with hh | hh
  · simp only [List.mem_cons, List.not_mem_nil, or_false, or_self] at hh
    omega
  · omega

end Go.Proofs.YtnpiheoglilcbaaGreatDoor

/-! A value of numbers of four bytes is put over a new memory buffer. -/
namespace Go.Proofs.YtnpiheoglilcbaaGreatDoor
open Go.RowKit Go.Deep
set_option linter.unusedVariables false
set_option linter.unusedSimpArgs false

theorem boxes_bin (x : Int) (w W' : World) (h : Below ((w.alloc (.cells #[.int .i64 0, .bool true, .bool false, .bool false, .int .i32 0, .int .i32 0, .int .i32 0] 23)).alloc (.cells #[.int .i64 8, .int .i64 x, .slice none 0 0, .int .i64 0, .int .i64 0, .slice none 0 0, .slice none 0 0] 28)).heap.size ((w.alloc (.cells #[.int .i64 0, .bool true, .bool false, .bool false, .int .i32 0, .int .i32 0, .int .i32 0] 23)).alloc (.cells #[.int .i64 8, .int .i64 x, .slice none 0 0, .int .i64 0, .int .i64 0, .slice none 0 0, .slice none 0 0] 28)) W') :
    W'.cell? ⟨w.heap.size, 0, none⟩ = some (.int .i64 0) ∧ W'.cell? ⟨w.heap.size, 1, none⟩ = some (.bool true) ∧ W'.cell? ⟨w.heap.size, 2, none⟩ = some (.bool false) ∧ W'.cell? ⟨w.heap.size, 3, none⟩ = some (.bool false) ∧ W'.cell? ⟨w.heap.size, 4, none⟩ = some (.int .i32 0) ∧ W'.cell? ⟨w.heap.size, 5, none⟩ = some (.int .i32 0) ∧ W'.cell? ⟨w.heap.size, 6, none⟩ = some (.int .i32 0) ∧ W'.cell? ⟨w.heap.size + 1, 0, none⟩ = some (.int .i64 8) ∧ W'.cell? ⟨w.heap.size + 1, 1, none⟩ = some (.int .i64 x) ∧ W'.cell? ⟨w.heap.size + 1, 2, none⟩ = some (.slice none 0 0) ∧ W'.cell? ⟨w.heap.size + 1, 3, none⟩ = some (.int .i64 0) ∧ W'.cell? ⟨w.heap.size + 1, 4, none⟩ = some (.int .i64 0) ∧ W'.cell? ⟨w.heap.size + 1, 5, none⟩ = some (.slice none 0 0) ∧ W'.cell? ⟨w.heap.size + 1, 6, none⟩ = some (.slice none 0 0) := by
  refine ⟨?_, ?_, ?_, ?_, ?_, ?_, ?_, ?_, ?_, ?_, ?_, ?_, ?_, ?_⟩ <;> (refine (World.cell?_of_block (h.block _ (by simp <;> omega))).trans ?_; simp)

set_option maxRecDepth 100000 in
set_option maxHeartbeats 8000000 in
theorem Put_bin (x : Int) (w : World) (h0 : -2147483648 ≤ x) (h1 : x < 2147483648) :
    Calls Tryz.prog 12 #[confPlain 0, i32V x] w fun e w' => ∃ v k, e = .returned (.tuple #[v, .int .i64 0]) ∧ w.heap.size ≤ k ∧ IsB (Lib.byteCells (Lib.beBytes 4 (x % 4294967296).toNat)) v k w' ∧ Below w.heap.size w w' := by
  go_enter Tryz.func12, Tryz.ntmps12
  go_wp2_with (go_at_call 25; refine (newMem _).mono ?_)
  rintro e W1 ⟨m, b, rfl, hm, hb, hM, hB⟩
  have HA := Lib.hid (boxes_bin x w)
  have HM := Lib.hid hM
  have HB := Lib.hid hB
  have hml := hM.lt
  have hbl := hM.2.2.2.lt.1
  have hbs := hB.size
  clear hM hB
  go_wp2_with (fail)
  go_region_held3 (fun W' => W'.cell? ⟨w.heap.size, 0, none⟩ = some (.int .i64 0) ∧ W'.cell? ⟨w.heap.size, 1, none⟩ = some (.bool true) ∧ W'.cell? ⟨w.heap.size, 2, none⟩ = some (.bool false) ∧ W'.cell? ⟨w.heap.size, 3, none⟩ = some (.bool false) ∧ W'.cell? ⟨w.heap.size, 4, none⟩ = some (.int .i32 0) ∧ W'.cell? ⟨w.heap.size, 5, none⟩ = some (.int .i32 0) ∧ W'.cell? ⟨w.heap.size, 6, none⟩ = some (.int .i32 0) ∧ W'.cell? ⟨w.heap.size + 1, 0, none⟩ = some (.int .i64 8) ∧ W'.cell? ⟨w.heap.size + 1, 1, none⟩ = some (.int .i64 x) ∧ W'.cell? ⟨w.heap.size + 1, 2, none⟩ = some (.slice none 0 0) ∧ W'.cell? ⟨w.heap.size + 1, 3, none⟩ = some (.int .i64 0) ∧ W'.cell? ⟨w.heap.size + 1, 4, none⟩ = some (.int .i64 0) ∧ W'.cell? ⟨w.heap.size + 1, 5, none⟩ = some (.slice none 0 0) ∧ W'.cell? ⟨w.heap.size + 1, 6, none⟩ = some (.slice none 0 0)) (first | (exact HA.out _ HB.out) | (exact HA.out _ HB.out.drew) | (exact HA.out _ HB2.out) | (exact HA.out _ HB3.out) | assumption)
    (first
      | (go_at_call 27; refine (protocol_bin m b b 0 [] _ ?_).mono ?_; exact HM.out; rintro e W2 ⟨p, sc, rfl, hp, hP, hB2⟩; have HB2 := Lib.hid (HB.out.drew.trans (hB2.mono hbs)); have HM2 := Lib.hid (Mem.step (show Mem m b b 0 [] W1.drew from HM.out) (Step.ofBelow (S := []) hB2) (by simp) (by simp) (by simp)); have HP2 := Lib.hid hP; have hpl : W1.heap.size ≤ p := hp; clear hB2 hP hp)
      | (go_at_call 26; refine (put_bin_i32 p m b b (memV m) (.pointer none) sc [] x _ ?_ ?_ (by omega) (by omega) (by omega) h0 h1 (by simp)).mono ?_; exact HP2.out; exact HM2.out; rintro e W3 ⟨rfl, g1, sc1, hP, hM, hs⟩; have HB3 := Lib.hid (HB2.out.trans (hs.below _ HB2.out.size (by intro k hk; simp only [List.mem_cons, List.not_mem_nil, or_false] at hk; omega))); have HM3 := Lib.hid hM; have hg1 := hs.own g1 (by simp); clear hs hM hP))
  have cm3 := HM3.out.cell
  go_wp2_with (go_at_call 28; refine (buf_bytes b g1 _ _ HM3.out.2.2.2).mono ?_)
  rintro e W4 ⟨v, rfl, hv, n, rfl⟩
  go_wp2_with (go_at_call 29; refine (kind_nil _).mono ?_; rintro e w' ⟨rfl, rfl⟩)
  go_ret2
  have hB4 := below_drewN HB3.out n
  refine ⟨v, g1, rfl, ?_, by simpa using hv, ?_⟩
  · simp at hm hb hbs hpl
    rcases hg1 with hh | hh
    · simp only [List.mem_cons, List.not_mem_nil, or_false] at hh
      omega
    · have := HB2.out.size
      simp at this
      omega
  · exact (((Below.refl _ w).alloc (Nat.le_refl _) _).alloc (by simp) _).trans (hB4.mono (by simp <;> omega))

theorem boxes_cmp (x : Int) (w W' : World) (h : Below ((w.alloc (.cells #[.int .i64 1, .bool true, .bool false, .bool false, .int .i32 0, .int .i32 0, .int .i32 0] 23)).alloc (.cells #[.int .i64 8, .int .i64 x, .slice none 0 0, .int .i64 0, .int .i64 0, .slice none 0 0, .slice none 0 0] 28)).heap.size ((w.alloc (.cells #[.int .i64 1, .bool true, .bool false, .bool false, .int .i32 0, .int .i32 0, .int .i32 0] 23)).alloc (.cells #[.int .i64 8, .int .i64 x, .slice none 0 0, .int .i64 0, .int .i64 0, .slice none 0 0, .slice none 0 0] 28)) W') :
    W'.cell? ⟨w.heap.size, 0, none⟩ = some (.int .i64 1) ∧ W'.cell? ⟨w.heap.size, 1, none⟩ = some (.bool true) ∧ W'.cell? ⟨w.heap.size, 2, none⟩ = some (.bool false) ∧ W'.cell? ⟨w.heap.size, 3, none⟩ = some (.bool false) ∧ W'.cell? ⟨w.heap.size, 4, none⟩ = some (.int .i32 0) ∧ W'.cell? ⟨w.heap.size, 5, none⟩ = some (.int .i32 0) ∧ W'.cell? ⟨w.heap.size, 6, none⟩ = some (.int .i32 0) ∧ W'.cell? ⟨w.heap.size + 1, 0, none⟩ = some (.int .i64 8) ∧ W'.cell? ⟨w.heap.size + 1, 1, none⟩ = some (.int .i64 x) ∧ W'.cell? ⟨w.heap.size + 1, 2, none⟩ = some (.slice none 0 0) ∧ W'.cell? ⟨w.heap.size + 1, 3, none⟩ = some (.int .i64 0) ∧ W'.cell? ⟨w.heap.size + 1, 4, none⟩ = some (.int .i64 0) ∧ W'.cell? ⟨w.heap.size + 1, 5, none⟩ = some (.slice none 0 0) ∧ W'.cell? ⟨w.heap.size + 1, 6, none⟩ = some (.slice none 0 0) := by
  refine ⟨?_, ?_, ?_, ?_, ?_, ?_, ?_, ?_, ?_, ?_, ?_, ?_, ?_, ?_⟩ <;> (refine (World.cell?_of_block (h.block _ (by simp <;> omega))).trans ?_; simp)

set_option maxRecDepth 100000 in
set_option maxHeartbeats 8000000 in
theorem Put_cmp (x : Int) (w : World) (h0 : -2147483648 ≤ x) (h1 : x < 2147483648) :
    Calls Tryz.prog 12 #[confPlain 1, i32V x] w fun e w' => ∃ v k, e = .returned (.tuple #[v, .int .i64 0]) ∧ w.heap.size ≤ k ∧ IsB (Lib.byteCells (Lib.uvarint (Lib.zigzag x))) v k w' ∧ Below w.heap.size w w' := by
  go_enter Tryz.func12, Tryz.ntmps12
  go_wp2_with (go_at_call 25; refine (newMem _).mono ?_)
  rintro e W1 ⟨m, b, rfl, hm, hb, hM, hB⟩
  have HA := Lib.hid (boxes_cmp x w)
  have HM := Lib.hid hM
  have HB := Lib.hid hB
  have hml := hM.lt
  have hbl := hM.2.2.2.lt.1
  have hbs := hB.size
  clear hM hB
  go_wp2_with (fail)
  go_region_held3 (fun W' => W'.cell? ⟨w.heap.size, 0, none⟩ = some (.int .i64 1) ∧ W'.cell? ⟨w.heap.size, 1, none⟩ = some (.bool true) ∧ W'.cell? ⟨w.heap.size, 2, none⟩ = some (.bool false) ∧ W'.cell? ⟨w.heap.size, 3, none⟩ = some (.bool false) ∧ W'.cell? ⟨w.heap.size, 4, none⟩ = some (.int .i32 0) ∧ W'.cell? ⟨w.heap.size, 5, none⟩ = some (.int .i32 0) ∧ W'.cell? ⟨w.heap.size, 6, none⟩ = some (.int .i32 0) ∧ W'.cell? ⟨w.heap.size + 1, 0, none⟩ = some (.int .i64 8) ∧ W'.cell? ⟨w.heap.size + 1, 1, none⟩ = some (.int .i64 x) ∧ W'.cell? ⟨w.heap.size + 1, 2, none⟩ = some (.slice none 0 0) ∧ W'.cell? ⟨w.heap.size + 1, 3, none⟩ = some (.int .i64 0) ∧ W'.cell? ⟨w.heap.size + 1, 4, none⟩ = some (.int .i64 0) ∧ W'.cell? ⟨w.heap.size + 1, 5, none⟩ = some (.slice none 0 0) ∧ W'.cell? ⟨w.heap.size + 1, 6, none⟩ = some (.slice none 0 0)) (first | (exact HA.out _ HB.out) | (exact HA.out _ HB.out.drew) | (exact HA.out _ HB2.out) | (exact HA.out _ HB3.out) | assumption)
    (first
      | (go_at_call 27; refine (protocol_cmp m b b 0 [] _ ?_).mono ?_; exact HM.out; rintro e W2 ⟨p, sc, rfl, hp, hP, hB2⟩; have HB2 := Lib.hid (HB.out.drew.trans (hB2.mono hbs)); have HM2 := Lib.hid (Mem.step (show Mem m b b 0 [] W1.drew from HM.out) (Step.ofBelow (S := []) hB2) (by simp) (by simp) (by simp)); have HP2 := Lib.hid hP; have hpl : W1.heap.size ≤ p := hp; clear hB2 hP hp)
      | (go_at_call 26; refine (put_cmp_i32 p m b b (memV m) (.pointer none) CS0 sc [] x _ ?_ ?_ (by omega) (by omega) (by omega) h0 h1 (by simp)).mono ?_; exact HP2.out; exact HM2.out; rintro e W3 ⟨rfl, g1, sc1, hP, hM, hs⟩; have HB3 := Lib.hid (HB2.out.trans (hs.below _ HB2.out.size (by intro k hk; simp only [List.mem_cons, List.not_mem_nil, or_false] at hk; omega))); have HM3 := Lib.hid hM; have hg1 := hs.own g1 (by simp); clear hs hM hP))
  have cm3 := HM3.out.cell
  go_wp2_with (go_at_call 28; refine (buf_bytes b g1 _ _ HM3.out.2.2.2).mono ?_)
  rintro e W4 ⟨v, rfl, hv, n, rfl⟩
  go_wp2_with (go_at_call 29; refine (kind_nil _).mono ?_; rintro e w' ⟨rfl, rfl⟩)
  go_ret2
  have hB4 := below_drewN HB3.out n
  refine ⟨v, g1, rfl, ?_, by simpa using hv, ?_⟩
  · simp at hm hb hbs hpl
    rcases hg1 with hh | hh
    · simp only [List.mem_cons, List.not_mem_nil, or_false] at hh
      omega
    · have := HB2.out.size
      simp at this
      omega
  · exact (((Below.refl _ w).alloc (Nat.le_refl _) _).alloc (by simp) _).trans (hB4.mono (by simp <;> omega))

end Go.Proofs.YtnpiheoglilcbaaGreatDoor

/-! A value of numbers of four bytes is got by the binary protocol. -/
namespace Go.Proofs.YtnpiheoglilcbaaGreatDoor
open Go.RowKit Go.Deep
set_option linter.unusedVariables false
set_option linter.unusedSimpArgs false

theorem bin_m_ReadI32 (k p : Nat) (w : World) : (method (k + 1) 120 (.pointer (some ⟨p, 0, none⟩)) "ReadI32").run Tryz.prog w = .ok (190, .pointer (some ⟨p, 0, none⟩)) w := by kernel_rfl
theorem bin_n_ReadI32 (k p : Nat) (w : World) : (nilAhead (k + 1) 120 (.pointer (some ⟨p, 0, none⟩)) "ReadI32").run Tryz.prog w = .ok (some false) w := by kernel_rfl

/-- What was read, where it is a number; a step that reads one number. -/
abbrev gotN (n : Int) : Value := .agg #[.int .i64 0, .int .i64 0, .int .i64 0, .int .i64 0, .int .i64 0, .int .i64 n, .slice none 0 0]
abbrev stepV (k : Int) : Value := .agg #[.int .i64 k, .int .i64 0, .int .i64 0, .int .i64 0, .int .i64 0, .int .i64 0, .slice none 0 0]

set_option maxRecDepth 100000 in
set_option maxHeartbeats 4000000 in
theorem read_bin_i32 (p m b g off : Nat) (og cf : Value) (sc : List Value) (b0 b1 b2 b3 : UInt8) (l : List UInt8) (w : World) (hp : Bin p (memV m) og cf sc w) (h : Mem m b g off (Lib.byteCells (b0 :: b1 :: b2 :: b3 :: l)) w) (hpm : p ≠ m) (hpb : p ≠ b) (hpg : p ≠ g) :
    Calls Tryz.prog 56 #[binV p, stepV 16] w fun e w' => e = .returned (.tuple #[gotN (wrap32 (Lib.beNat [b0, b1, b2, b3])), .nilIface]) ∧
      ∃ sc1, Bin p (memV m) og cf sc1 w' ∧ Mem m b g (off + 4) (Lib.byteCells l) w' ∧ Step [b, p] [b, p] w w' := by
  have hmeth := bin_m_ReadI32
  have hnil := bin_n_ReadI32
  have ha : ∀ c d, Bin p (memV m) og cf sc ((w.alloc c).alloc d).drew := fun c d => Bin.drewN ((hp.alloc c).alloc d) 1
  have hb : ∀ c d, Mem m b g off (Lib.byteCells (b0 :: b1 :: b2 :: b3 :: l)) ((w.alloc c).alloc d).drew := fun c d => Mem.drewN ((h.alloc c).alloc d) 1
  have hs : ∀ c d, Step [b, p] [b, p] w ((w.alloc c).alloc d).drew := fun c d => (((Step.refl _ _).alloc c).alloc d).drew
  have hpl := hp.lt
  have hbl := h.2.2.2.lt.1
  have hwr : IntKind.i64.wrap (wrap32 (Lib.beNat [b0, b1, b2, b3])) = wrap32 (Lib.beNat [b0, b1, b2, b3]) := by
    rw [IntKind.wrap_i64]; unfold wrap32; omega
  have HML := Lib.hid h.lt
  have HGL := Lib.hid h.2.2.2.lt.2
  have HA := Lib.hid ha
  have HM := Lib.hid hb
  have HS := Lib.hid hs
  clear ha hb hs
  go_enter Tryz.func56, Tryz.ntmps56
  go_wp2_with (fail)
  go_region_held3 (fun _ => True) (trivial)
    (first
      | (go_at_call 33; refine (ctx_any _).mono ?_; rintro e w' ⟨rfl, rfl⟩)
      | (go_at_call 190; refine (bin_readI32 p m b g off og cf sc b0 b1 b2 b3 l _ ?_ ?_ hpm hpb hpg).mono ?_; exact HA.out _ _; exact HM.out _ _; rintro e W1 ⟨rfl, sc1, hP, hM, hs⟩; have hbx := (hs.block (w.heap.size + 1) (by simp) (by simp; omega)).trans (heap_alloc_at (by simp) _); have c0 : W1.cell? ⟨w.heap.size + 1, 0, none⟩ = some (.int .i64 0) := (cell_heap hbx _).trans rfl; have c1 : W1.cell? ⟨w.heap.size + 1, 1, none⟩ = some (.int .i64 0) := (cell_heap hbx _).trans rfl; have c2 : W1.cell? ⟨w.heap.size + 1, 2, none⟩ = some (.int .i64 0) := (cell_heap hbx _).trans rfl; have c3 : W1.cell? ⟨w.heap.size + 1, 3, none⟩ = some (.int .i64 0) := (cell_heap hbx _).trans rfl; have c4 : W1.cell? ⟨w.heap.size + 1, 4, none⟩ = some (.int .i64 0) := (cell_heap hbx _).trans rfl; have c5 : W1.cell? ⟨w.heap.size + 1, 5, none⟩ = some (.int .i64 0) := (cell_heap hbx _).trans rfl; have c6 : W1.cell? ⟨w.heap.size + 1, 6, none⟩ = some (.slice none 0 0) := (cell_heap hbx _).trans rfl; have hfz := frozen_heap hbx; have HP1 := Lib.hid hP; have HM1 := Lib.hid hM; have HS1 := Lib.hid ((HS.out _ _).trans hs); clear hP hM hs hbx))
  all_goals go_wp2_with (fail)
  all_goals (
    have hml := HML.out
    have hgl := HGL.out
    refine bodyPost_ret (v := .tuple #[gotN (wrap32 (Lib.beNat [b0, b1, b2, b3])), .nilIface]) (by simp [results, Tryz.results56, go_sem, *]) rfl ?_
    refine ⟨rfl, sc1, HP1.out.step (S := [w.heap.size + 1]) (T := [w.heap.size + 1]) ?_ (by simp; omega), HM1.out.step (S := [w.heap.size + 1]) (T := [w.heap.size + 1]) ?_ (by simp; omega) (by simp; omega) (by simp; omega), ?_⟩
    · iterate 7 refine Step.setCell ?_ (.inl (by simp)) _
      exact Step.refl _ _
    · iterate 7 refine Step.setCell ?_ (.inl (by simp)) _
      exact Step.refl _ _
    · iterate 7 refine Step.setCell ?_ (.inr (by simp)) _
      exact HS1.out)

end Go.Proofs.YtnpiheoglilcbaaGreatDoor

/-! A value of numbers of four bytes is got by the binary protocol. -/
namespace Go.Proofs.YtnpiheoglilcbaaGreatDoor
open Go.RowKit Go.Deep
set_option linter.unusedVariables false
set_option linter.unusedSimpArgs false

/-- A row of seven cells is written whole. -/
theorem set7 {W : World} {B : Nat} {a0 a1 a2 a3 a4 a5 a6 : Value} {ty : TypeId} (h : W.heap[B]? = some (.cells #[a0, a1, a2, a3, a4, a5, a6] ty (0, 0))) (v0 v1 v2 v3 v4 v5 v6 : Value) :
    ∃ W2, ((((((W.setCell ⟨B, 0, none⟩ v0).setCell ⟨B, 1, none⟩ v1).setCell ⟨B, 2, none⟩ v2).setCell ⟨B, 3, none⟩ v3).setCell ⟨B, 4, none⟩ v4).setCell ⟨B, 5, none⟩ v5).setCell ⟨B, 6, none⟩ v6 = W2 ∧
      W2.heap[B]? = some (.cells #[v0, v1, v2, v3, v4, v5, v6] ty (0, 0)) ∧ Step [B] [B] W W2 := by
  have e0 : (W.setCell ⟨B, 0, none⟩ v0).heap[B]? = some (.cells #[v0, a1, a2, a3, a4, a5, a6] ty (0, 0)) := by rw [heap_set_same h]; rfl
  have s0 : Step [B] [B] W (W.setCell ⟨B, 0, none⟩ v0) := (Step.refl _ W).setCell (.inl (by simp)) _
  have e1 : ((W.setCell ⟨B, 0, none⟩ v0).setCell ⟨B, 1, none⟩ v1).heap[B]? = some (.cells #[v0, v1, a2, a3, a4, a5, a6] ty (0, 0)) := by rw [heap_set_same e0]; rfl
  have s1 : Step [B] [B] W ((W.setCell ⟨B, 0, none⟩ v0).setCell ⟨B, 1, none⟩ v1) := s0.setCell (.inl (by simp)) _
  have e2 : (((W.setCell ⟨B, 0, none⟩ v0).setCell ⟨B, 1, none⟩ v1).setCell ⟨B, 2, none⟩ v2).heap[B]? = some (.cells #[v0, v1, v2, a3, a4, a5, a6] ty (0, 0)) := by rw [heap_set_same e1]; rfl
  have s2 : Step [B] [B] W (((W.setCell ⟨B, 0, none⟩ v0).setCell ⟨B, 1, none⟩ v1).setCell ⟨B, 2, none⟩ v2) := s1.setCell (.inl (by simp)) _
  have e3 : ((((W.setCell ⟨B, 0, none⟩ v0).setCell ⟨B, 1, none⟩ v1).setCell ⟨B, 2, none⟩ v2).setCell ⟨B, 3, none⟩ v3).heap[B]? = some (.cells #[v0, v1, v2, v3, a4, a5, a6] ty (0, 0)) := by rw [heap_set_same e2]; rfl
  have s3 : Step [B] [B] W ((((W.setCell ⟨B, 0, none⟩ v0).setCell ⟨B, 1, none⟩ v1).setCell ⟨B, 2, none⟩ v2).setCell ⟨B, 3, none⟩ v3) := s2.setCell (.inl (by simp)) _
  have e4 : (((((W.setCell ⟨B, 0, none⟩ v0).setCell ⟨B, 1, none⟩ v1).setCell ⟨B, 2, none⟩ v2).setCell ⟨B, 3, none⟩ v3).setCell ⟨B, 4, none⟩ v4).heap[B]? = some (.cells #[v0, v1, v2, v3, v4, a5, a6] ty (0, 0)) := by rw [heap_set_same e3]; rfl
  have s4 : Step [B] [B] W (((((W.setCell ⟨B, 0, none⟩ v0).setCell ⟨B, 1, none⟩ v1).setCell ⟨B, 2, none⟩ v2).setCell ⟨B, 3, none⟩ v3).setCell ⟨B, 4, none⟩ v4) := s3.setCell (.inl (by simp)) _
  have e5 : ((((((W.setCell ⟨B, 0, none⟩ v0).setCell ⟨B, 1, none⟩ v1).setCell ⟨B, 2, none⟩ v2).setCell ⟨B, 3, none⟩ v3).setCell ⟨B, 4, none⟩ v4).setCell ⟨B, 5, none⟩ v5).heap[B]? = some (.cells #[v0, v1, v2, v3, v4, v5, a6] ty (0, 0)) := by rw [heap_set_same e4]; rfl
  have s5 : Step [B] [B] W ((((((W.setCell ⟨B, 0, none⟩ v0).setCell ⟨B, 1, none⟩ v1).setCell ⟨B, 2, none⟩ v2).setCell ⟨B, 3, none⟩ v3).setCell ⟨B, 4, none⟩ v4).setCell ⟨B, 5, none⟩ v5) := s4.setCell (.inl (by simp)) _
  have e6 : (((((((W.setCell ⟨B, 0, none⟩ v0).setCell ⟨B, 1, none⟩ v1).setCell ⟨B, 2, none⟩ v2).setCell ⟨B, 3, none⟩ v3).setCell ⟨B, 4, none⟩ v4).setCell ⟨B, 5, none⟩ v5).setCell ⟨B, 6, none⟩ v6).heap[B]? = some (.cells #[v0, v1, v2, v3, v4, v5, v6] ty (0, 0)) := by rw [heap_set_same e5]; rfl
  have s6 : Step [B] [B] W (((((((W.setCell ⟨B, 0, none⟩ v0).setCell ⟨B, 1, none⟩ v1).setCell ⟨B, 2, none⟩ v2).setCell ⟨B, 3, none⟩ v3).setCell ⟨B, 4, none⟩ v4).setCell ⟨B, 5, none⟩ v5).setCell ⟨B, 6, none⟩ v6) := s5.setCell (.inl (by simp)) _
  exact ⟨_, rfl, e6, s6⟩

set_option maxRecDepth 100000 in
set_option maxHeartbeats 4000000 in
theorem get_bin_i32 (p m b g off : Nat) (og cf : Value) (sc : List Value) (b0 b1 b2 b3 : UInt8) (l : List UInt8) (w : World) (hp : Bin p (memV m) og cf sc w) (h : Mem m b g off (Lib.byteCells (b0 :: b1 :: b2 :: b3 :: l)) w) (hpm : p ≠ m) (hpb : p ≠ b) (hpg : p ≠ g) :
    Calls Tryz.prog 42 #[binV p, .int .u8 8, .int .i64 1] w fun e w' => e = .returned (.tuple #[i32V (wrap32 (Lib.beNat [b0, b1, b2, b3])), .nilIface]) ∧
      ∃ sc1, Bin p (memV m) og cf sc1 w' ∧ Mem m b g (off + 4) (Lib.byteCells l) w' ∧ Step [b, p] [b, p] w w' := by
  have hpl := hp.lt
  have hbl := h.2.2.2.lt.1
  have HML := Lib.hid h.lt
  have HGL := Lib.hid h.2.2.2.lt.2
  have ha : ∀ c d f, Bin p (memV m) og cf sc (((w.alloc c).alloc d).alloc f) := fun c d f => ((hp.alloc c).alloc d).alloc f
  have hb : ∀ c d f, Mem m b g off (Lib.byteCells (b0 :: b1 :: b2 :: b3 :: l)) (((w.alloc c).alloc d).alloc f) := fun c d f => ((h.alloc c).alloc d).alloc f
  have hs : ∀ c d f, Step [b, p] [b, p] w (((w.alloc c).alloc d).alloc f) := fun c d f => (((Step.refl _ _).alloc c).alloc d).alloc f
  have HA := Lib.hid ha
  have HM := Lib.hid hb
  have HS := Lib.hid hs
  clear ha hb hs
  go_enter Tryz.func42, Tryz.ntmps42
  go_wp2_with (go_at_call 56; refine (read_bin_i32 p m b g off og cf sc b0 b1 b2 b3 l _ ?_ ?_ hpm hpb hpg).mono ?_; exact HA.out _ _ _; exact HM.out _ _ _)
  rintro e W1 ⟨rfl, sc1, hP, hM, hs⟩
  have h0 := (hs.block w.heap.size (by simp <;> omega) (by simp; omega)).trans (heap_alloc_old (heap_alloc_old (heap_alloc_new _ _) _) _)
  have h1 := (hs.block (w.heap.size + 1) (by simp <;> omega) (by simp; omega)).trans (heap_alloc_old (heap_alloc_at (by simp) _) _)
  have h2 := (hs.block (w.heap.size + 1 + 1) (by simp <;> omega) (by simp; omega)).trans (heap_alloc_at (by simp) _)
  have k20 : W1.cell? ⟨w.heap.size + 1 + 1, 0, none⟩ = some (.int .i64 0) := (cell_heap h2 _).trans rfl
  have k21 : W1.cell? ⟨w.heap.size + 1 + 1, 1, none⟩ = some (.int .i64 0) := (cell_heap h2 _).trans rfl
  have k22 : W1.cell? ⟨w.heap.size + 1 + 1, 2, none⟩ = some (.int .i64 0) := (cell_heap h2 _).trans rfl
  have k23 : W1.cell? ⟨w.heap.size + 1 + 1, 3, none⟩ = some (.int .i64 0) := (cell_heap h2 _).trans rfl
  have k24 : W1.cell? ⟨w.heap.size + 1 + 1, 4, none⟩ = some (.int .i64 0) := (cell_heap h2 _).trans rfl
  have k25 : W1.cell? ⟨w.heap.size + 1 + 1, 5, none⟩ = some (.int .i64 0) := (cell_heap h2 _).trans rfl
  have k26 : W1.cell? ⟨w.heap.size + 1 + 1, 6, none⟩ = some (.slice none 0 0) := (cell_heap h2 _).trans rfl
  have f2 := frozen_heap h2
  have HP1 := Lib.hid hP
  have HM1 := Lib.hid hM
  have HS1 := Lib.hid ((HS.out _ _ _).trans hs)
  have H0 := Lib.hid h0
  have H1 := Lib.hid h1
  have H2 := Lib.hid h2
  have hsz1 : w.heap.size + 1 + 1 < W1.heap.size := lt_heap h2
  clear hP hM hs h0 h1 h2
  go_wp2
  obtain ⟨W2, e2, h2, hs2⟩ := set7 H2.out (.int .i64 0) (.int .i64 0) (.int .i64 0) (.int .i64 0) (.int .i64 0) (.int .i64 (wrap32 (Lib.beNat [b0, b1, b2, b3]))) (.slice none 0 0)
  rw [e2]
  clear k20 k21 k22 k23 k24 k25 k26 f2 e2
  have h1 := (hs2.block (w.heap.size + 1) (by omega) (by simp)).trans H1.out
  have h0 := (hs2.block w.heap.size (by omega) (by simp; omega)).trans H0.out
  have k00 : W2.cell? ⟨w.heap.size, 0, none⟩ = some (.int .i64 0) := (cell_heap h0 _).trans rfl
  have k01 : W2.cell? ⟨w.heap.size, 1, none⟩ = some (.int .i64 0) := (cell_heap h0 _).trans rfl
  have k02 : W2.cell? ⟨w.heap.size, 2, none⟩ = some (.slice none 0 0) := (cell_heap h0 _).trans rfl
  have k03 : W2.cell? ⟨w.heap.size, 3, none⟩ = some (.int .i64 0) := (cell_heap h0 _).trans rfl
  have k04 : W2.cell? ⟨w.heap.size, 4, none⟩ = some (.int .i64 0) := (cell_heap h0 _).trans rfl
  have k05 : W2.cell? ⟨w.heap.size, 5, none⟩ = some (.slice none 0 0) := (cell_heap h0 _).trans rfl
  have k06 : W2.cell? ⟨w.heap.size, 6, none⟩ = some (.slice none 0 0) := (cell_heap h0 _).trans rfl
  have f0 := frozen_heap h0
  have k10 : W2.cell? ⟨w.heap.size + 1, 0, none⟩ = some (.int .i64 8) := (cell_heap h1 _).trans rfl
  have k11 : W2.cell? ⟨w.heap.size + 1, 1, none⟩ = some (.int .i64 0) := (cell_heap h1 _).trans rfl
  have k12 : W2.cell? ⟨w.heap.size + 1, 2, none⟩ = some (.slice none 0 0) := (cell_heap h1 _).trans rfl
  have k13 : W2.cell? ⟨w.heap.size + 1, 3, none⟩ = some (.int .i64 0) := (cell_heap h1 _).trans rfl
  have k14 : W2.cell? ⟨w.heap.size + 1, 4, none⟩ = some (.int .i64 0) := (cell_heap h1 _).trans rfl
  have k15 : W2.cell? ⟨w.heap.size + 1, 5, none⟩ = some (.slice none 0 0) := (cell_heap h1 _).trans rfl
  have k16 : W2.cell? ⟨w.heap.size + 1, 6, none⟩ = some (.slice none 0 0) := (cell_heap h1 _).trans rfl
  have f1 := frozen_heap h1
  have k25 : W2.cell? ⟨w.heap.size + 1 + 1, 5, none⟩ = some (.int .i64 (wrap32 (Lib.beNat [b0, b1, b2, b3]))) := (cell_heap h2 _).trans rfl
  have k26 : W2.cell? ⟨w.heap.size + 1 + 1, 6, none⟩ = some (.slice none 0 0) := (cell_heap h2 _).trans rfl
  have HS2 := Lib.hid hs2
  clear hs2 h0 h1 h2
  go_region_held3 (fun W' => W'.cell? ⟨w.heap.size + 1 + 1, 5, none⟩ = some (.int .i64 (wrap32 (Lib.beNat [b0, b1, b2, b3]))) ∧ W'.cell? ⟨w.heap.size + 1 + 1, 6, none⟩ = some (.slice none 0 0)) (simp [go_sem, *]) (first | fail)
  all_goals go_wp2
  all_goals (
    have hml := HML.out
    have hgl := HGL.out
    refine bodyPost_ret (v := .tuple #[i32V (wrap32 (Lib.beNat [b0, b1, b2, b3])), .nilIface]) (by simp [results, Tryz.results42, go_sem, *]) rfl ?_
    have hs3 := HS2.out.more (S1 := [w.heap.size, w.heap.size + 1, w.heap.size + 1 + 1]) (T1 := [w.heap.size, w.heap.size + 1, w.heap.size + 1 + 1]) (by simp) (by simp)
    refine ⟨rfl, sc1, HP1.out.step (S := [w.heap.size, w.heap.size + 1, w.heap.size + 1 + 1]) (T := [w.heap.size, w.heap.size + 1, w.heap.size + 1 + 1]) ?_ (by simp; omega), HM1.out.step (S := [w.heap.size, w.heap.size + 1, w.heap.size + 1 + 1]) (T := [w.heap.size, w.heap.size + 1, w.heap.size + 1 + 1]) ?_ (by simp; omega) (by simp; omega) (by simp; omega), ?_⟩
    · repeat (first | (with_reducible exact hs3) | (with_reducible refine Step.drew ?_) | (with_reducible refine Step.setCell ?_ (.inl (by simp)) _))
    · repeat (first | (with_reducible exact hs3) | (with_reducible refine Step.drew ?_) | (with_reducible refine Step.setCell ?_ (.inl (by simp)) _))
    · refine (Step.trans (HS1.out.more (S1 := [b, p]) (T1 := [b, p, w.heap.size, w.heap.size + 1, w.heap.size + 1 + 1]) (by simp) ?_) (Step.more (S := [w.heap.size, w.heap.size + 1, w.heap.size + 1 + 1]) (T := [w.heap.size, w.heap.size + 1, w.heap.size + 1 + 1]) (T1 := [b, p]) ?_ (by simp) (by simp)))
      · intro k hk
        simp only [List.mem_cons, List.not_mem_nil, or_false] at hk ⊢
        omega
      · repeat (first | (with_reducible exact hs3) | (with_reducible refine Step.drew ?_) | (with_reducible refine Step.setCell ?_ (.inl (by simp)) _)))

end Go.Proofs.YtnpiheoglilcbaaGreatDoor

/-! A value of numbers of four bytes is got from given bytes by the binary protocol. -/
namespace Go.Proofs.YtnpiheoglilcbaaGreatDoor
open Go.RowKit Go.Deep
set_option linter.unusedVariables false
set_option linter.unusedSimpArgs false

theorem typ_any (x : Int) (w : World) (h0 : 0 ≤ x) (h1 : x < 256) : Calls Tryz.prog 31 #[.int .i64 x] w fun e w' => e = .returned (.int .u8 x) ∧ w = w' := by
  have hw : IntKind.u8.wrap x = x := by rw [IntKind.wrap_u8]; omega
  go_enter Tryz.func31, Tryz.ntmps31
  go_wp2
  go_ret
  exact ⟨rfl, rfl⟩

theorem gboxes (w W' : World) (h : Below ((w.alloc (.cells #[.int .i64 0, .bool true, .bool false, .bool false, .int .i32 0, .int .i32 0, .int .i32 0] 23)).alloc (.cells #[.int .i64 0, .int .i64 0, .slice none 0 0, .int .i64 0, .int .i64 0, .slice none 0 0, .slice none 0 0] 28)).heap.size ((w.alloc (.cells #[.int .i64 0, .bool true, .bool false, .bool false, .int .i32 0, .int .i32 0, .int .i32 0] 23)).alloc (.cells #[.int .i64 0, .int .i64 0, .slice none 0 0, .int .i64 0, .int .i64 0, .slice none 0 0, .slice none 0 0] 28)) W') :
    (W'.cell? ⟨w.heap.size, 0, none⟩ = some (.int .i64 0) ∧ W'.cell? ⟨w.heap.size, 1, none⟩ = some (.bool true) ∧ W'.cell? ⟨w.heap.size, 2, none⟩ = some (.bool false) ∧ W'.cell? ⟨w.heap.size, 3, none⟩ = some (.bool false) ∧ W'.cell? ⟨w.heap.size, 4, none⟩ = some (.int .i32 0) ∧ W'.cell? ⟨w.heap.size, 5, none⟩ = some (.int .i32 0) ∧ W'.cell? ⟨w.heap.size, 6, none⟩ = some (.int .i32 0)) ∧ W'.heap[w.heap.size + 1]? = some (.cells #[.int .i64 0, .int .i64 0, .slice none 0 0, .int .i64 0, .int .i64 0, .slice none 0 0, .slice none 0 0] 28) := by
  refine ⟨?_, (h.block _ (by simp)).trans (heap_alloc_at (by simp) _)⟩
  refine ⟨?_, ?_, ?_, ?_, ?_, ?_, ?_⟩ <;> (refine (World.cell?_of_block (h.block _ (by simp <;> omega))).trans ?_; simp)

set_option maxRecDepth 100000 in
set_option maxHeartbeats 4000000 in
theorem Get_bin (n c : Nat) (b0 b1 b2 b3 : UInt8) (l : List UInt8) (a : Addr) (w : World) (hn : l.length + 4 = n) (hal : a.block < w.heap.size) (hsrc : ∀ j v, (Lib.byteCells (b0 :: b1 :: b2 :: b3 :: l))[j]? = some v → w.cell? (a.add j) = some v) (hlim : n ≤ 140737488355328) :
    Calls Tryz.prog 24 #[confPlain 0, .int .i64 8, .slice (some a) n c, .int .i64 1] w fun e w' => e = .returned (.tuple #[i32V (wrap32 (Lib.beNat [b0, b1, b2, b3])), .int .i64 0, .int .i64 l.length]) ∧ Below w.heap.size w w' := by
  have hsrc1 : ∀ cc cd, ∀ j v, (Lib.byteCells (b0 :: b1 :: b2 :: b3 :: l))[j]? = some v → ((w.alloc cc).alloc cd).cell? (a.add j) = some v := fun cc cd j v hj => by
    have hal1 : (a.add j).block < w.heap.size := by rw [Lib.block_add]; exact hal
    rw [World.cell?_of_block (w := w) ((Below.heap_alloc _ _ _ (by simp; omega)).trans (Below.heap_alloc _ _ _ hal1))]; exact hsrc j v hj
  have HSR := Lib.hid hsrc1
  have HT := Lib.hid typ_any
  clear hsrc hsrc1
  go_enter Tryz.func24, Tryz.ntmps24
  go_wp2_with (fail)
  refine (holding_any n c (Lib.byteCells (b0 :: b1 :: b2 :: b3 :: l)) a _ (by simp [Lib.byteCells_length]; omega) (by simp; omega) (HSR.out _ _) (Lib.byteCells_one _) (by omega) hlim).mono ?_
  rintro e W1 ⟨m, b, g, rfl, hm, hb, hg, hM, hB⟩
  have HA := Lib.hid (gboxes w)
  have HM := Lib.hid hM
  have HB := Lib.hid hB
  have hml := hM.lt
  have hbl := hM.2.2.2.lt
  have hbs := hB.size
  clear hM hB
  obtain ⟨⟨q0, q1, q2, q3, q4, q5, q6⟩, _⟩ := HA.out _ HB.out
  go_wp2_with (fail)
  refine (protocol_bin m b g 0 _ _ HM.out).mono ?_
  rintro e W2 ⟨p, sc, rfl, hp, hP, hB2⟩
  have HB2 := Lib.hid (HB.out.trans (hB2.mono hbs))
  have HM2 := Lib.hid (Mem.step HM.out (Step.ofBelow (S := []) hB2) (by simp) (by simp) (by simp))
  have HP2 := Lib.hid hP
  have hpl : W1.heap.size ≤ p := hp
  clear hB2 hP hp q0 q1 q2 q3 q4 q5 q6
  go_wp2_with (go_at_call 31; refine (HT.out 8 _ (by omega) (by omega)).mono ?_; rintro e w' ⟨rfl, rfl⟩)
  go_outline
  refine (get_bin_i32 p m b g 0 (memV m) (.pointer none) sc b0 b1 b2 b3 l _ HP2.out HM2.out (by omega) (by omega) (by omega)).mono ?_
  rintro e W3 ⟨rfl, sc1, hP, hM, hs⟩
  have HB3 := Lib.hid (HB2.out.trans (hs.below _ HB2.out.size (by intro k hk; simp only [List.mem_cons, List.not_mem_nil, or_false] at hk; omega)))
  have HM3 := Lib.hid hM
  have cm := hM.cell
  clear hs hM hP
  have hr := (HA.out _ HB3.out).2
  have r0 : W3.cell? ⟨w.heap.size + 1, 0, none⟩ = some (.int .i64 0) := (cell_heap hr _).trans rfl
  have r1 : W3.cell? ⟨w.heap.size + 1, 1, none⟩ = some (.int .i64 0) := (cell_heap hr _).trans rfl
  have r2 : W3.cell? ⟨w.heap.size + 1, 2, none⟩ = some (.slice none 0 0) := (cell_heap hr _).trans rfl
  have r3 : W3.cell? ⟨w.heap.size + 1, 3, none⟩ = some (.int .i64 0) := (cell_heap hr _).trans rfl
  have r4 : W3.cell? ⟨w.heap.size + 1, 4, none⟩ = some (.int .i64 0) := (cell_heap hr _).trans rfl
  have r5 : W3.cell? ⟨w.heap.size + 1, 5, none⟩ = some (.slice none 0 0) := (cell_heap hr _).trans rfl
  have r6 : W3.cell? ⟨w.heap.size + 1, 6, none⟩ = some (.slice none 0 0) := (cell_heap hr _).trans rfl
  have fr := frozen_heap hr
  have hrl : w.heap.size + 1 < W3.heap.size := lt_heap hr
  have hmne : ¬ m = w.heap.size + 1 := by have hm' := hm; simp at hm'; omega
  have hml3 : m < W3.heap.size := HM3.out.lt
  have HU := Lib.hid (show ∀ cc, Buf b g (0 + 4) (Lib.byteCells l) (W3.alloc cc).drew from fun cc => ((HM3.out.alloc cc).2.2.2).drew)
  clear hr
  go_wp2_with (fail)
  go_region_held3 (fun W' => W'.cell? ⟨m, 0, none⟩ = some (.pointer (some ⟨b, 0, none⟩)) ∧ W'.cell? ⟨W3.heap.size, 0, none⟩ = some (.int .i64 8) ∧ W'.cell? ⟨W3.heap.size, 1, none⟩ = some (.int .i64 (wrap32 (Lib.beNat [b0, b1, b2, b3]))) ∧ W'.cell? ⟨W3.heap.size, 2, none⟩ = some (.slice none 0 0) ∧ W'.cell? ⟨W3.heap.size, 3, none⟩ = some (.int .i64 0) ∧ W'.cell? ⟨W3.heap.size, 4, none⟩ = some (.int .i64 0) ∧ W'.cell? ⟨W3.heap.size, 5, none⟩ = some (.slice none 0 0) ∧ W'.cell? ⟨W3.heap.size, 6, none⟩ = some (.slice none 0 0)) (simp [go_sem, *]) 
    (first
      | (go_at_call 29; refine (kind_nil _).mono ?_; rintro e w' ⟨rfl, rfl⟩)
      | (go_at_call 43; refine (buf_left b g (0 + 4) (Lib.byteCells l) _ ?_).mono ?_; exact HU.out _; rintro e w' ⟨rfl, nn, rfl⟩))
  go_wp2_with (fail)
  refine bodyPost_ret (v := .tuple #[i32V (wrap32 (Lib.beNat [b0, b1, b2, b3])), .int .i64 0, .int .i64 l.length]) (by simp [results, Tryz.results24, go_sem, Lib.byteCells_length, *]) rfl ?_
  have hB0 := ((Below.refl _ w).alloc (Nat.le_refl _) (.cells #[.int .i64 0, .bool true, .bool false, .bool false, .int .i32 0, .int .i32 0, .int .i32 0] 23)).alloc (by simp) (.cells #[.int .i64 0, .int .i64 0, .slice none 0 0, .int .i64 0, .int .i64 0, .slice none 0 0, .slice none 0 0] 28)
  refine ⟨rfl, ?_⟩
  refine hB0.trans (Below.trans (HB3.out.mono (by simp <;> omega)) ?_)
  have hb3 : Below w.heap.size W3 W3 := Below.refl _ _
  repeat (first | (with_reducible exact hb3) | (with_reducible refine Below.drew ?_) | (with_reducible refine below_drewN ?_ _) | (with_reducible refine Below.setCell ?_ (by simp <;> omega) _) | (with_reducible refine Below.alloc ?_ (by omega) _))

end Go.Proofs.YtnpiheoglilcbaaGreatDoor

/-! Two rows of the same bytes are told equal. -/
namespace Go.Proofs.YtnpiheoglilcbaaGreatDoor
open Go.RowKit Go.Deep
set_option linter.unusedVariables false
set_option linter.unusedSimpArgs false

theorem IsB.form {cs : List Value} {v : Value} {k : Nat} {w : World} (h : IsB cs v k w) : ∃ ao c, v = .slice ao cs.length c ∧ (cs ≠ [] → ∃ o, ao = some ⟨k, o, none⟩ ∧ ∀ j x, cs[j]? = some x → w.cell? ⟨k, o + j, none⟩ = some x) := by
  obtain ⟨c, ⟨rfl, rfl⟩ | ⟨o, rfl, _, _, _, h5⟩⟩ := h
  · exact ⟨none, 0, rfl, fun hh => absurd rfl hh⟩
  · exact ⟨_, _, rfl, fun _ => ⟨o, rfl, h5⟩⟩

set_option maxHeartbeats 2000000 in
theorem equal_same (ka kb : Nat) (va vb : Value) (l : List UInt8) (w : World) (ha : IsB (Lib.byteCells l) va ka w) (hb : IsB (Lib.byteCells l) vb kb w) (hl : l.length < 2147483648) :
    Calls Tryz.prog 14 #[va, vb] w fun e w' => e = .returned (.bool true) ∧ ∃ n, w' = w.drewN n := by
  obtain ⟨ao, ca, rfl, h1⟩ := ha.form
  obtain ⟨bo, cb, rfl, h2⟩ := hb.form
  rw [Lib.byteCells_length]
  rcases Classical.em (l = []) with rfl | hne
  · go_enter Tryz.func14, Tryz.ntmps14
    go_wp2
    refine wp_loop_rounds 1 ?_
    rw [rounds_succ]
    go_wp2
    go_ret
    exact ⟨rfl, 0, rfl⟩
  · have hcn : Lib.byteCells l ≠ [] := by cases l with | nil => exact absurd rfl hne | cons x l => simp [Lib.byteCells]
    obtain ⟨oa, rfl, k1⟩ := h1 hcn
    obtain ⟨ob, rfl, k2⟩ := h2 hcn
    go_enter Tryz.func14, Tryz.ntmps14
    go_wp2
    go_loopw [5] (fun i wr => ∃ k : Nat, i = .int .i64 k ∧ k ≤ l.length ∧ ∃ n, wr = w.drewN n) (fun i _ => l.length - (intOf i).toNat)
    case atStart => exact ⟨0, rfl, Nat.zero_le _, 0, rfl⟩
    case round =>
      obtain ⟨k, rfl, hk, n, rfl⟩ := hrel
      by_cases hkl : k < l.length
      · have x1 : w.cell? ⟨ka, oa + k, none⟩ = some (.int .u8 (l[k].toNat : Nat)) := k1 k _ (by simp [Lib.byteCells, hkl])
        have x2 : w.cell? ⟨kb, ob + k, none⟩ = some (.int .u8 (l[k].toNat : Nat)) := k2 k _ (by simp [Lib.byteCells, hkl])
        go_wp2
        go_quiet (fail)
        go_wp2
        exact ⟨⟨k + 1, by simp, hkl, _, rfl⟩, by simp [intOf]; omega⟩
      · go_wp2
        go_ret
        exact ⟨rfl, n, rfl⟩

end Go.Proofs.YtnpiheoglilcbaaGreatDoor

/-! The answers that are known ahead are got. -/
namespace Go.Proofs.YtnpiheoglilcbaaGreatDoor
open Go.RowKit Go.Deep
set_option linter.unusedVariables false
set_option linter.unusedSimpArgs false

theorem alloc_src (w : World) (l : List UInt8) (ty : TypeId) : ∀ j v, (Lib.byteCells l)[j]? = some v → (w.alloc (.cells (Lib.byteCells l).toArray ty)).cell? ((⟨w.heap.size, 0, none⟩ : Addr).add j) = some v := fun j v hj => by
  rw [Lib.addr_add, cell_heap (heap_alloc_new _ _)]
  simpa using hj

theorem alloc_IsB {w0 w : World} (l : List UInt8) (ty : TypeId) {k : Nat} (hk : k = w.heap.size) (hl : l.length ≤ maxLen) (hw : w0 = w.alloc (.cells (Lib.byteCells l).toArray ty)) : IsB (Lib.byteCells l) (.slice (some ⟨k, 0, none⟩) l.length l.length) k w0 := by
  subst hk hw
  refine ⟨l.length, .inr ⟨0, by rw [Lib.byteCells_length], by rw [Lib.byteCells_length]; exact Nat.le_refl _, hl, by simp, fun j x hj => ?_⟩⟩
  have := alloc_src w l ty j x hj
  rwa [Lib.addr_add] at this

set_option maxRecDepth 100000 in
set_option maxHeartbeats 4000000 in
theorem known_any (w : World) : Calls Tryz.prog 11 #[] w fun e w' => e = .returned (.bool true) ∧ Below w.heap.size w w' := by
  have h1 := Lib.hid (Put_bin 258)
  have h2 := Lib.hid (Put_cmp (-3))
  have h3 := Lib.hid (Get_bin 5 5 0 0 1 2 [9])
  go_enter Tryz.func11, Tryz.ntmps11
  go_wp2_with (fail)
  refine (h1.out _ (by omega) (by omega)).mono ?_
  rintro e W1 ⟨v1, k1, rfl, hk1, hv1, hB1⟩
  go_wp2_with (fail)
  refine (h2.out _ (by omega) (by omega)).mono ?_
  rintro e W2 ⟨v2, k2, rfl, hk2, hv2, hB2⟩
  go_wp2_with (fail)
  refine (h3.out _ _ (by simp) (by simp) (alloc_src W2 [0, 0, 1, 2, 9] 5) (by omega)).mono ?_
  rintro e W3 ⟨rfl, hB3⟩
  have hx : wrap32 (Lib.beNat [0, 0, 1, 2]) = 258 := by kernel_rfl
  rw [hx]
  go_wp2_with (fail)
  have i1 := ((hv1.step (Step.ofBelow (S := []) hB2) (by simp)).step (((Step.refl [] _).alloc _).trans (Step.ofBelow hB3)) (by simp))
  have i2 := hv2.step (((Step.refl [] _).alloc _).trans (Step.ofBelow (S := []) hB3)) (by simp)
  have HB := Lib.hid ((hB1.trans (hB2.mono hB1.size)).trans (((Below.refl w.heap.size W2).alloc (Nat.le_trans hB1.size hB2.size) _).trans (hB3.mono (by have := hB1.size; have := hB2.size; simp; omega))))
  refine (equal_same k1 (W3.heap.size + 1) v1 _ [0, 0, 1, 2] _ (i1.step (((Step.refl [] _).alloc _).alloc _) (by simp)) (alloc_IsB [0, 0, 1, 2] 5 (by simp) (by simp [maxLen]) rfl) (by simp)).mono ?_
  rintro e W4 ⟨rfl, n4, rfl⟩
  go_wp2_with (fail)
  have hz : Lib.uvarint (Lib.zigzag (-3)) = [5] := by kernel_rfl
  rw [hz] at i2
  refine (equal_same k2 (W3.heap.size + 1 + 1) v2 _ [5] _ (i2.step ((((Step.refl [] _).alloc _).alloc _).drewN n4 |>.alloc _) (by simp)) (alloc_IsB [5] 5 (by simp) (by simp [maxLen]) rfl) (by simp)).mono ?_
  rintro e W5 ⟨rfl, n5, rfl⟩
  have hsz : w.heap.size ≤ W3.heap.size := HB.out.size
  have HF := Lib.hid (below_drewN (((below_drewN ((HB.out.alloc hsz (.cells #[.int .i64 8, .int .i64 258, .slice none 0 0, .int .i64 0, .int .i64 0, .slice none 0 0, .slice none 0 0] 28)).alloc (by simp; omega) (.cells (Lib.byteCells [0, 0, 1, 2]).toArray 5)) n4).alloc (by simp; omega) (.cells (Lib.byteCells [5]).toArray 5))) n5)
  go_wp2
  go_ret
  exact ⟨rfl, HF.out⟩

end Go.Proofs.YtnpiheoglilcbaaGreatDoor

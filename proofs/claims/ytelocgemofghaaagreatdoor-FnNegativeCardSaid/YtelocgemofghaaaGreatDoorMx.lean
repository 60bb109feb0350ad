/- One step alone, written and read back. No condition. -/
import Derived.Test.YtelocgemofghaaaGreatDoorMv4
import Derived.Test.YtelocgemofghaaaGreatDoorMr
import Derived.Deep.QuietTactic
import Derived.BigQuiet
import Derived.Test.YtelocgemofghaaaGreatDoorMr2
import Derived.Test.YtelocgemofghaaaGreatDoorMg1
import Derived.Test.YtelocgemofghaaaGreatDoorMb1
import Derived.Test.YtelocgemofghaaaGreatDoorMd1
import Derived.Lib.EndianMore
/-! What one step told held against what it should tell. -/
namespace Go.Proofs.YtelocgemofghaaaGreatDoor

open Go.RowKit Go.Deep

set_option linter.unusedVariables false

set_option linter.unusedSimpArgs false

open Go.Proofs.YtelocgemofghaaaGreatDoorW.PrintWords

/-- A row of these bytes. -/
def RowB (s : List UInt8) (v : Value) (w : World) : Prop := ∃ a c, v = .slice a (ints s).length c ∧ (ints s).length ≤ c ∧ (Kd.int .u8).C w a (ints s).length (ints s)

theorem RowB.below {s : List UInt8} {v : Value} {w w1 : World} (h : RowB s v w) (hB : Below w.heap.size w w1) : RowB s v w1 := by
  obtain ⟨a, c, h1, h2, h3⟩ := h
  exact ⟨a, c, h1, h2, Kd.C_below h3 hB⟩

theorem equal_bytes {s : List UInt8} {v1 v2 : Value} {W : World} (h1 : RowB s v1 W) (h2 : RowB s v2 W) :
    Calls Tryz.prog 19 #[v1, v2] W fun e w' => e = .returned (.bool true) ∧ Drawn0 W w' := by
  obtain ⟨a1, c1, rfl, hc1, hC1⟩ := h1
  obtain ⟨a2, c2, rfl, hc2, hC2⟩ := h2
  have := equal_any hC1 hc1 hC2 hc2
  simpa using this

end Go.Proofs.YtelocgemofghaaaGreatDoor

/-! A configuration with another protocol. -/
namespace Go.Proofs.YtelocgemofghaaaGreatDoor

open Go.RowKit Go.Deep

set_option linter.unusedVariables false

set_option linter.unusedSimpArgs false

open Go.Proofs.YtelocgemofghaaaGreatDoorW.PrintWords

theorem by_any (n proto : Int) (plain rb sb : Bool) (ms ct fr : Int) (w : World) :
    Calls Tryz.prog 17 #[.int .i64 n, confV proto plain rb sb ms ct fr] w fun e w' => e = .returned (confV n plain rb sb ms ct fr) ∧ Below w.heap.size w w' :=
  laws_by.calls n proto plain rb sb ms ct fr _ _ _ _ _ _ _ w rfl

end Go.Proofs.YtelocgemofghaaaGreatDoor

/-! Numbers by seven bits: the laws' own words for them. -/
namespace Go.Proofs.YtelocgemofghaaaGreatDoor

open Go.RowKit Go.Deep

set_option linter.unusedVariables false

set_option linter.unusedSimpArgs false

open Go.Proofs.YtelocgemofghaaaGreatDoorW.PrintWords

theorem u8_or128 : ∀ a : Fin 256, bits .or .u8 ((a.val : Nat) : Int) 128 = ((a.val % 128 + 128 : Nat) : Int) := by decide +kernel

theorem seven_l0 : ∀ (k N : Nat) (acc : List Int), N < 128 ^ (k + 1) → acc.length + k + 1 ≤ 1000 → laws_seven.l0 (k + 1) (N : Int) acc = some (acc ++ ints (Lib.uvarint N))
  | 0, N, acc, h, hl => by
    have hN : N < 128 := by simpa using h
    rw [laws_seven.l0, if_neg (by omega), if_pos (by omega), Lib.uvarint_small hN]
    simp [ints]
  | k + 1, N, acc, h, hl => by
    by_cases hN : N < 128
    · rw [laws_seven.l0, if_neg (by omega), if_pos (by omega), Lib.uvarint_small hN]
      simp [ints]
    · have hd : N / 128 < 128 ^ (k + 1) := by
        rw [Nat.div_lt_iff_lt_mul (by omega)]
        rw [Nat.pow_succ] at h
        exact h
      have e : (N : Int) / 128 = ((N / 128 : Nat) : Int) := by omega
      have e2 : bits .or .u8 ((N : Int) % 256) 128 = ((N % 128 + 128 : Nat) : Int) := by
        have := u8_or128 ⟨N % 256, by omega⟩
        rw [show ((N : Int) % 256) = ((N % 256 : Nat) : Int) by omega, this]
        simp only [Int.ofNat_inj]
        omega
      rw [laws_seven.l0, if_pos (by omega), if_pos (by omega), e, e2, seven_l0 k (N / 128) _ hd (by simp; omega), Lib.uvarint_big (x := N) (by omega)]
      have e3 : ((N % 128 + 128).toUInt8).toNat = N % 128 + 128 := by
        simp only [Nat.toUInt8, UInt8.toNat_ofNat']
        omega
      simp [ints, e3]
      omega

theorem seven_f (N : Nat) (h : N < 18446744073709551616) : laws_seven.f 10 (N : Int) = some (ints (Lib.uvarint N)) := by
  unfold laws_seven.f
  rw [seven_l0 9 N [] (Nat.lt_of_lt_of_le h (by decide)) (by simp)]
  rfl

theorem seven_any (N : Nat) (h : N < 18446744073709551616) (w : World) : Calls Tryz.prog 14 #[.int .u64 (N : Int)] w fun e w' => ∃ v : Value, e = .returned v ∧ Kd.R (Kd.int .u8) 5 w' w.heap.size (fun _ => True) v (ints (Lib.uvarint N)) ∧ Below w.heap.size w w' :=
  laws_seven.calls 10 _ _ w (seven_f N h)

end Go.Proofs.YtelocgemofghaaaGreatDoor

/-! Numbers, the highest byte first: the laws' own words for them. -/
namespace Go.Proofs.YtelocgemofghaaaGreatDoor

open Go.RowKit Go.Deep

set_option linter.unusedVariables false

set_option linter.unusedSimpArgs false

open Go.Proofs.YtelocgemofghaaaGreatDoorW.PrintWords

end Go.Proofs.YtelocgemofghaaaGreatDoor

/-! Numbers by the compact protocol, written and read back: plain. -/
namespace Go.Proofs.YtelocgemofghaaaGreatDoor

open Go.RowKit Go.Deep

set_option linter.unusedVariables false

set_option linter.unusedSimpArgs false

theorem encC_one (c : Cfg) (o : WOp) (hf : o.fit) : encC 1 c [o] = ((cmpRun CW0 o).2.1, (cmpRun CW0 o).2.2) := by
  have h : (cmpRun CW0 o).2.1.length ≤ o.cost := cmpO_len CW0 okW_0 o hf
  unfold encC
  rw [if_pos rfl]
  unfold runs
  simp only [cmpStep, cmpO, List.take_of_length_le h, List.nil_append, runs]
  split
  · next h2 => rw [h2]
  · rfl

end Go.Proofs.YtelocgemofghaaaGreatDoor

/-! Begins of lists, sets and maps by the compact protocol, written and read back: plain. -/
namespace Go.Proofs.YtelocgemofghaaaGreatDoor

open Go.RowKit Go.Deep

set_option linter.unusedVariables false

set_option linter.unusedSimpArgs false

open Go.Proofs.YtelocgemofghaaaGreatDoorW.PrintWords

theorem rdC_map (c : Cfg) (L : List UInt8) : rdC 1 c (CR0, L) .mapB = (v64 L).bind fun a => cRdMap c CR0 a.1 a.2 := by
  unfold rdC
  rw [if_pos rfl]
  rfl

end Go.Proofs.YtelocgemofghaaaGreatDoor

/-! A made row of zeros; begins of lists and sets by the compact protocol: plain. -/
namespace Go.Proofs.YtelocgemofghaaaGreatDoor

open Go.RowKit Go.Deep

set_option linter.unusedVariables false

set_option linter.unusedSimpArgs false

open Go.Proofs.YtelocgemofghaaaGreatDoorW.PrintWords

theorem C_one1 {q : Nat} {x : Int} {W : World} (h : W.cell? ⟨q, 0, none⟩ = some (.int .u8 x)) : (Kd.int .u8).C W (some ⟨q, 0, none⟩) 1 [x] := by
  refine ⟨rfl, by simp, fun _ => ⟨_, rfl, fun j p hj => ⟨[.int .u8 p], rfl, rfl, fun i u hu => ?_⟩⟩⟩
  match j, hj with
  | 0, hj =>
    simp only [List.getElem?_cons_zero, Option.some.injEq] at hj
    subst hj
    cases i with
    | succ i => simp at hu
    | zero =>
      simp only [List.getElem?_cons_zero, Option.some.injEq] at hu
      subst hu
      rw [Lib.addr_add]
      simpa using h
  | j + 1, hj => simp at hj

theorem info_made : (Tryz.prog.info? 5).map (fun i => (i.zero, i.size, i.bytes)) = some (some (.int .u8 0), 1, 1) := by kernel_rfl

theorem mk_any (m : Nat) (hm : m ≤ 1000000) (w : World) : (Instr.makeSlice 24 (.int .i64 (m : Int)) (.int .i64 (m : Int))).run Tryz.prog w = .ok (.slice (some ⟨w.heap.size, 0, none⟩) m m) (w.alloc (.cells (madeCells #[.int .u8 0] m) 5)) :=
  run_make_row' (P := Tryz.prog) 24 5 (.int .u8 0) 1 Tryz.underlying24 info_made rfl .i64 .i64 m (by omega) (by omega) w

end Go.Proofs.YtelocgemofghaaaGreatDoor

/-! Texts and begins of messages by the compact protocol, written and read back: plain. -/
namespace Go.Proofs.YtelocgemofghaaaGreatDoor

open Go.RowKit Go.Deep

set_option linter.unusedVariables false

set_option linter.unusedSimpArgs false

theorem v64_nat (n : Nat) (h : n ≤ 2147483647) (R : List UInt8) : v64 (Lib.uvarint n ++ R) = some ((n : Int), R) := by
  have hv := v64_uvarint n R (by omega)
  rw [show wrap64 ((n : Nat) : Int) = n from by unfold wrap64; omega] at hv
  exact hv

end Go.Proofs.YtelocgemofghaaaGreatDoor

/-! Sizes below 0 are refused by both protocols: plain. -/
namespace Go.Proofs.YtelocgemofghaaaGreatDoor

open Go.RowKit Go.Deep

set_option linter.unusedVariables false

set_option linter.unusedSimpArgs false

open Go.Proofs.YtelocgemofghaaaGreatDoorW.PrintWords

theorem be4_ints (n : Int) : ints (be 4 n) = [n / 16777216 % 256, n / 65536 % 256, n / 256 % 256, n % 256] := by
  have e : ∀ x : Nat, ((x % 256).toUInt8).toNat = x % 256 := fun x => by
    simp only [Nat.toUInt8, UInt8.toNat_ofNat']
    omega
  obtain ⟨N, hN⟩ : ∃ N : Nat, n % 4294967296 = N := ⟨(n % 4294967296).toNat, by omega⟩
  have h1 : be 4 n = Lib.beBytes 4 N := by
    unfold be
    rw [show (256 : Int) ^ 4 = 4294967296 from rfl, hN, Int.toNat_natCast]
  rw [h1]
  simp only [ints, Lib.beBytes, Lib.leBytes, List.reverse_cons, List.reverse_nil, List.nil_append, List.cons_append, List.map_cons, List.map_nil, e]
  simp only [List.cons.injEq, and_true]
  refine ⟨?_, ?_, ?_, ?_⟩ <;> omega

theorem big4_f (n : Int) (h0 : -2147483648 ≤ n) (h1 : n < 2147483648) : laws_big.f 6 n 4 = some (ints (be 4 n)) := by
  rw [be4_ints]
  have hN : IntKind.u64.wrap n = n % 18446744073709551616 := by
    have es : IntKind.u64.signed = false := rfl
    simp [IntKind.wrap, go_sem, es]
  have eb : IntKind.u64.bits = 64 := rfl
  simp [laws_big.f, laws_big.l0, wrap64, shr, eb, hN]
  first | omega | (refine ⟨?_, ?_, ?_⟩ <;> omega) | (refine ⟨?_, ?_⟩ <;> omega) | trace_state

theorem big4_any (n : Int) (h0 : -2147483648 ≤ n) (h1 : n < 2147483648) (w : World) : Calls Tryz.prog 13 #[.int .i64 n, .int .i64 4] w fun e w' => ∃ v : Value, e = .returned v ∧ Kd.R (Kd.int .u8) 5 w' w.heap.size (fun _ => True) v (ints (be 4 n)) ∧ Below w.heap.size w w' :=
  laws_big.calls 6 _ _ _ w (big4_f n h0 h1)

/-- What is told, as far as it matters: a kind. -/
def Kinds (proto : Int) (c : Cfg) (l : List UInt8) (o : ROp) (k : Nat) : Prop := ∃ g st' rest, rdC proto c (CR0, l) o = some (g, k, (st', rest))

theorem be4_take (n : Int) (h0 : -2147483648 ≤ n) (h1 : n < 2147483648) (R : List UInt8) : ∃ b, takeN 4 (be 4 n ++ R) = some (b, R) ∧ wrap32 (Lib.beNat b) = n := by
  obtain ⟨N, hN⟩ : ∃ N : Nat, n % 4294967296 = N := ⟨(n % 4294967296).toNat, by omega⟩
  have e1 : be 4 n = Lib.beBytes 4 N := by
    unfold be
    rw [show (256 : Int) ^ 4 = 4294967296 from rfl, hN, Int.toNat_natCast]
  have hl : (be 4 n).length = 4 := by rw [e1]; exact Lib.beBytes_length 4 N
  refine ⟨be 4 n, ?_, ?_⟩
  · unfold takeN
    rw [if_pos (by rw [List.length_append, hl]; omega), List.take_left' hl, List.drop_left' hl]
  · rw [e1, Lib.beNat_beBytes 4 N (by omega)]
    unfold wrap32
    omega

theorem neg_size (c : Cfg) {n : Int} (h : n < 0) : sizeK c n = 12 := by unfold sizeK; rw [if_pos h]

theorem neg_cont (c : Cfg) {n : Int} (h : n < 0) (m rem : Int) : contK c n m rem = 12 := by unfold contK; rw [if_pos h]

theorem bin_neg_str (c : Cfg) (n : Int) (h1 : n < 0) {L R b : List UInt8} (hb : takeN 4 L = some (b, R)) (hw : wrap32 (Lib.beNat b) = n) : rdC 0 c (CR0, L) .str = some ({}, 12, (CR0, R)) := by
  unfold rdC
  rw [if_neg (by omega)]
  show ((takeN 4 L).bind fun a => if sizeK c (wrap32 (Lib.beNat a.1)) = 0 then (takeN (wrap32 (Lib.beNat a.1)).toNat a.2).map fun b => (({ s := b.1 } : RGot), 0, b.2) else some ({}, sizeK c (wrap32 (Lib.beNat a.1)), a.2)).map _ = _
  rw [hb, Option.bind_some]
  dsimp only
  rw [hw, neg_size c h1, if_neg (by decide), Option.map_some]

theorem bin_neg_lst (c : Cfg) (n : Int) (h1 : n < 0) {L R b : List UInt8} (hb : takeN 4 L = some (b, R)) (hw : wrap32 (Lib.beNat b) = n) : rdC 0 c (CR0, (3 : UInt8) :: L) .lstB = some ({ t := (3 : UInt8).toNat }, 12, (CR0, R)) := by
  unfold rdC
  rw [if_neg (by omega)]
  show ((takeN 4 L).map fun a => ((if contK c (wrap32 (Lib.beNat a.1)) (minB ((3 : UInt8).toNat : Int)) a.2.length = 0 then ({ t := (3 : UInt8).toNat, size := wrap32 (Lib.beNat a.1) } : RGot) else { t := (3 : UInt8).toNat }), contK c (wrap32 (Lib.beNat a.1)) (minB ((3 : UInt8).toNat : Int)) a.2.length, a.2)).map _ = _
  rw [hb, Option.map_some, Option.map_some]
  dsimp only
  rw [hw, neg_cont c h1, if_neg (by decide)]

theorem bin_neg_set (c : Cfg) (n : Int) (h1 : n < 0) {L R b : List UInt8} (hb : takeN 4 L = some (b, R)) (hw : wrap32 (Lib.beNat b) = n) : rdC 0 c (CR0, (3 : UInt8) :: L) .setB = some ({ t := (3 : UInt8).toNat }, 12, (CR0, R)) := by
  unfold rdC
  rw [if_neg (by omega)]
  show ((takeN 4 L).map fun a => ((if contK c (wrap32 (Lib.beNat a.1)) (minB ((3 : UInt8).toNat : Int)) a.2.length = 0 then ({ t := (3 : UInt8).toNat, size := wrap32 (Lib.beNat a.1) } : RGot) else { t := (3 : UInt8).toNat }), contK c (wrap32 (Lib.beNat a.1)) (minB ((3 : UInt8).toNat : Int)) a.2.length, a.2)).map _ = _
  rw [hb, Option.map_some, Option.map_some]
  dsimp only
  rw [hw, neg_cont c h1, if_neg (by decide)]

theorem bin_neg_map (c : Cfg) (n : Int) (h1 : n < 0) {L R b : List UInt8} (hb : takeN 4 L = some (b, R)) (hw : wrap32 (Lib.beNat b) = n) : rdC 0 c (CR0, (3 : UInt8) :: (3 : UInt8) :: L) .mapB = some ({ k := (3 : UInt8).toNat, t := (3 : UInt8).toNat }, 12, (CR0, R)) := by
  unfold rdC
  rw [if_neg (by omega)]
  show ((takeN 4 L).map fun a => ((if contK c (wrap32 (Lib.beNat a.1)) (minB ((3 : UInt8).toNat : Int) + minB ((3 : UInt8).toNat : Int)) a.2.length = 0 then ({ k := (3 : UInt8).toNat, t := (3 : UInt8).toNat, size := wrap32 (Lib.beNat a.1) } : RGot) else { k := (3 : UInt8).toNat, t := (3 : UInt8).toNat }), contK c (wrap32 (Lib.beNat a.1)) (minB ((3 : UInt8).toNat : Int) + minB ((3 : UInt8).toNat : Int)) a.2.length, a.2)).map _ = _
  rw [hb, Option.map_some, Option.map_some]
  dsimp only
  rw [hw, neg_cont c h1, if_neg (by decide)]

theorem bin_neg (c : Cfg) (n : Int) (h0 : -2147483648 ≤ n) (h1 : n < 0) (R : List UInt8) :
    Kinds 0 c (be 4 n ++ R) .str 12 ∧ Kinds 0 c ((3 : UInt8) :: (be 4 n ++ R)) .lstB 12 ∧ Kinds 0 c ((3 : UInt8) :: (be 4 n ++ R)) .setB 12 ∧ Kinds 0 c ((3 : UInt8) :: (3 : UInt8) :: (be 4 n ++ R)) .mapB 12 := by
  obtain ⟨b, hb, hw⟩ := be4_take n h0 (by omega) R
  generalize be 4 n ++ R = L at hb ⊢
  refine ⟨⟨{}, CR0, R, ?_⟩, ⟨_, CR0, R, bin_neg_lst c n h1 hb hw⟩, ⟨_, CR0, R, bin_neg_set c n h1 hb hw⟩, ⟨_, CR0, R, bin_neg_map c n h1 hb hw⟩⟩
  exact bin_neg_str c n h1 hb hw

theorem cmp_neg (c : Cfg) (n : Int) (h0 : -2147483648 ≤ n) (h1 : n < 0) (R : List UInt8) :
    Kinds 1 c (Lib.uvarint (n % 4294967296).toNat ++ R) .str 12 ∧ Kinds 1 c ((243 : UInt8) :: (Lib.uvarint (n % 4294967296).toNat ++ R)) .lstB 12 ∧ Kinds 1 c ((243 : UInt8) :: (Lib.uvarint (n % 4294967296).toNat ++ R)) .setB 12 ∧ Kinds 1 c (Lib.uvarint (n % 4294967296).toNat ++ (51 : UInt8) :: R) .mapB 12 := by
  have hv := fun R => v64_uvarint (n % 4294967296).toNat R (by omega)
  have hw : wrap32 (wrap64 (((n % 4294967296).toNat : Nat) : Int)) = n := by unfold wrap32 wrap64; omega
  have hs : ∀ R, cSize 243 (Lib.uvarint (n % 4294967296).toNat ++ R) = some (n, R) := fun R => by
    unfold cSize
    rw [if_pos (by decide), hv, Option.map_some, hw]
  have ht : cType (((243 : UInt8).toNat : Int) % 16) = some 3 := by decide
  have hk : cType (((51 : UInt8).toNat : Int) / 16) = some 3 := by decide
  have hk2 : cType (((51 : UInt8).toNat : Int) % 16) = some 3 := by decide
  have hl : ∀ R, cRdLst c CR0 243 (Lib.uvarint (n % 4294967296).toNat ++ R) = some ({ t := 3, size := n }, 12, (CR0, R)) := fun R => by
    unfold cRdLst
    rw [hs, Option.bind_some, ht, Option.map_some, neg_cont c h1]
  refine ⟨⟨{}, CR0, R, ?_⟩, ⟨{ t := 3, size := n }, CR0, R, ?_⟩, ⟨{ t := 3, size := n }, CR0, R, ?_⟩, ⟨{ k := 3, t := 3, size := n }, CR0, R, ?_⟩⟩
  · unfold rdC
    rw [if_pos rfl]
    show (cRdStr c (Lib.uvarint (n % 4294967296).toNat ++ R)).map (fun b => (({ s := b.1 } : RGot), b.2.1, (CR0, b.2.2))) = _
    unfold cRdStr
    rw [hv, Option.bind_some]
    dsimp only
    rw [hw, neg_size c h1]
    rfl
  · unfold rdC
    rw [if_pos rfl]
    exact hl R
  · unfold rdC
    rw [if_pos rfl]
    exact hl R
  · rw [rdC_map, hv, Option.bind_some]
    dsimp only
    unfold cRdMap
    rw [hw, if_neg (by omega)]
    dsimp only
    rw [hk, hk2, Option.bind_some, Option.map_some, neg_cont c h1]

end Go.Proofs.YtelocgemofghaaaGreatDoor

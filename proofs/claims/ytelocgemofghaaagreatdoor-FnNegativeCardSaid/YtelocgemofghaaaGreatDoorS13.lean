/- The walk of FnNegative. -/
import Derived.Test.YtelocgemofghaaaGreatDoorMx
import Derived.Test.YtelocgemofghaaaGreatDoorMy
import Derived.Test.YtelocgemofghaaaGreatDoorMr
import Derived.Test.YtelocgemofghaaaGreatDoorMb2
namespace Go.Proofs.YtelocgemofghaaaGreatDoor
open Go.RowKit Go.Deep
set_option linter.unusedVariables false
set_option linter.unusedSimpArgs false
open Go.Proofs.YtelocgemofghaaaGreatDoorW.PrintWords

theorem join_two {W : World} (blk : Nat) (l1 l2 : List UInt8) (A1 A2 : Option Addr) (c1 c2 : Nat) (h0 : W.cell? ⟨blk, 0, none⟩ = some (.slice A1 (ints l1).length c1)) (h1 : W.cell? ⟨blk, 1, none⟩ = some (.slice A2 (ints l2).length c2)) (hc1 : (ints l1).length ≤ c1) (hc2 : (ints l2).length ≤ c2)
    (C1 : (Kd.int .u8).C W A1 (ints l1).length (ints l1)) (C2 : (Kd.int .u8).C W A2 (ints l2).length (ints l2)) (hl : l1.length + l2.length < 140737488355328) :
    Calls Tryz.prog 15 #[.slice (some ⟨blk, 0, none⟩) 2 2] W fun e w' => ∃ D d, e = .returned (.slice D (ints (l1 ++ l2)).length d) ∧ (Kd.int .u8).C w' D (ints (l1 ++ l2)).length (ints (l1 ++ l2)) ∧ (ints (l1 ++ l2)).length ≤ d ∧ Below W.heap.size W w' := by
  have h := joined_any (W := W) blk 2 [ints l1, ints l2] (by simp) (by simp) (by simp) (by simp [ints_length]; omega) (fun j p hj => by
    match j, hj with
    | 0, hj => simp only [List.getElem?_cons_zero, Option.some.injEq] at hj; subst hj; exact ⟨_, _, h0, hc1, C1⟩
    | 1, hj => simp only [List.getElem?_cons_succ, List.getElem?_cons_zero, Option.some.injEq] at hj; subst hj; exact ⟨_, _, h1, hc2, C2⟩
    | j + 2, hj => simp at hj)
  have e : [ints l1, ints l2].flatten = ints (l1 ++ l2) := by simp [ints]
  rw [e] at h
  refine h.mono fun e w' ⟨v, h1, h2, h3⟩ => ?_
  obtain ⟨D, d, rfl, hd, hC⟩ := Kd.R_reads h2
  exact ⟨D, d, h1, hC, hd, h3⟩

/-- A row of one byte joined with a row. -/
theorem join_head (wr : World) (x : UInt8) (l : List UInt8) (D : Option Addr) (d : Nat) (hd : (ints l).length ≤ d) (hC : (Kd.int .u8).C wr D (ints l).length (ints l)) (hl : l.length < 1000000) :
    Calls Tryz.prog 15 #[.slice (some ⟨wr.heap.size + 1, 0, none⟩) 2 2] ((wr.alloc (.cells #[.int .u8 ((x.toNat : Nat) : Int)] 5)).alloc (.cells #[.slice (some ⟨wr.heap.size, 0, none⟩) 1 1, .slice D (ints l).length d] 24)) fun e w' => ∃ D' d', e = .returned (.slice D' (ints (x :: l)).length d') ∧ (Kd.int .u8).C w' D' (ints (x :: l)).length (ints (x :: l)) ∧ (ints (x :: l)).length ≤ d' ∧ Below wr.heap.size wr w' := by
  have hb : Below wr.heap.size wr ((wr.alloc (.cells #[.int .u8 ((x.toNat : Nat) : Int)] 5)).alloc (.cells #[.slice (some ⟨wr.heap.size, 0, none⟩) 1 1, .slice D (ints l).length d] 24)) := ((Below.refl _ wr).alloc (Nat.le_refl _) _).alloc (by simp) _
  have h2 := heap_alloc_at (w := wr.alloc (.cells #[.int .u8 ((x.toNat : Nat) : Int)] 5)) (k := wr.heap.size + 1) (by simp) (.cells #[.slice (some ⟨wr.heap.size, 0, none⟩) 1 1, .slice D (ints l).length d] 24)
  have h1 := heap_alloc_old (heap_alloc_new wr (.cells #[.int .u8 ((x.toNat : Nat) : Int)] 5)) (.cells #[.slice (some ⟨wr.heap.size, 0, none⟩) 1 1, .slice D (ints l).length d] 24)
  exact (join_two (wr.heap.size + 1) [x] l (some ⟨wr.heap.size, 0, none⟩) D 1 d ((cell_heap h2 0).trans rfl) ((cell_heap h2 1).trans rfl) (Nat.le_refl _) hd (C_one1 ((cell_heap h1 0).trans rfl)) (Kd.C_below hC hb) (by simp; omega)).mono fun e w' ⟨D', d', q1, q2, q3, q4⟩ => ⟨D', d', q1, q2, q3, hb.trans (q4.mono hb.size)⟩

theorem C_two {q : Nat} {z x : UInt8} {W : World} (h0 : W.cell? ⟨q, 0, none⟩ = some (.int .u8 ((z.toNat : Nat) : Int))) (h1 : W.cell? ⟨q, 1, none⟩ = some (.int .u8 ((x.toNat : Nat) : Int))) : (Kd.int .u8).C W (some ⟨q, 0, none⟩) 2 (ints [z, x]) := by
  refine ⟨rfl, by simp, fun _ => ⟨_, rfl, fun j p hj => ?_⟩⟩
  match j, hj with
  | 0, hj =>
    have : p = ((z.toNat : Nat) : Int) := by simpa [ints] using hj.symm
    subst this
    refine ⟨[.int .u8 ((z.toNat : Nat) : Int)], rfl, rfl, fun i u hu => ?_⟩
    cases i with
    | succ i => simp at hu
    | zero =>
      have : u = .int .u8 ((z.toNat : Nat) : Int) := by simpa using hu.symm
      subst this
      exact h0
  | 1, hj =>
    have : p = ((x.toNat : Nat) : Int) := by simpa [ints] using hj.symm
    subst this
    refine ⟨[.int .u8 ((x.toNat : Nat) : Int)], rfl, rfl, fun i u hu => ?_⟩
    cases i with
    | succ i => simp at hu
    | zero =>
      have : u = .int .u8 ((x.toNat : Nat) : Int) := by simpa using hu.symm
      subst this
      exact h1
  | j + 2, hj => simp [ints] at hj

/-- A row of two bytes joined with a row. -/
theorem join_head2 (wr : World) (x y : UInt8) (l : List UInt8) (D : Option Addr) (d : Nat) (hd : (ints l).length ≤ d) (hC : (Kd.int .u8).C wr D (ints l).length (ints l)) (hl : l.length < 1000000) :
    Calls Tryz.prog 15 #[.slice (some ⟨wr.heap.size + 1, 0, none⟩) 2 2] ((wr.alloc (.cells #[.int .u8 ((x.toNat : Nat) : Int), .int .u8 ((y.toNat : Nat) : Int)] 5)).alloc (.cells #[.slice (some ⟨wr.heap.size, 0, none⟩) 2 2, .slice D (ints l).length d] 24)) fun e w' => ∃ D' d', e = .returned (.slice D' (ints (x :: y :: l)).length d') ∧ (Kd.int .u8).C w' D' (ints (x :: y :: l)).length (ints (x :: y :: l)) ∧ (ints (x :: y :: l)).length ≤ d' ∧ Below wr.heap.size wr w' := by
  have hb : Below wr.heap.size wr ((wr.alloc (.cells #[.int .u8 ((x.toNat : Nat) : Int), .int .u8 ((y.toNat : Nat) : Int)] 5)).alloc (.cells #[.slice (some ⟨wr.heap.size, 0, none⟩) 2 2, .slice D (ints l).length d] 24)) := ((Below.refl _ wr).alloc (Nat.le_refl _) _).alloc (by simp) _
  have h2 := heap_alloc_at (w := wr.alloc (.cells #[.int .u8 ((x.toNat : Nat) : Int), .int .u8 ((y.toNat : Nat) : Int)] 5)) (k := wr.heap.size + 1) (by simp) (.cells #[.slice (some ⟨wr.heap.size, 0, none⟩) 2 2, .slice D (ints l).length d] 24)
  have h1 := heap_alloc_old (heap_alloc_new wr (.cells #[.int .u8 ((x.toNat : Nat) : Int), .int .u8 ((y.toNat : Nat) : Int)] 5)) (.cells #[.slice (some ⟨wr.heap.size, 0, none⟩) 2 2, .slice D (ints l).length d] 24)
  exact (join_two (wr.heap.size + 1) [x, y] l (some ⟨wr.heap.size, 0, none⟩) D 2 d ((cell_heap h2 0).trans rfl) ((cell_heap h2 1).trans rfl) (Nat.le_refl _) hd (C_two ((cell_heap h1 0).trans rfl) ((cell_heap h1 1).trans rfl)) (Kd.C_below hC hb) (by simp; omega)).mono fun e w' ⟨D', d', q1, q2, q3, q4⟩ => ⟨D', d', q1, q2, q3, hb.trans (q4.mono hb.size)⟩

/-- A row joined with a row of one byte. -/
theorem join_tail (wr : World) (x : UInt8) (l : List UInt8) (D : Option Addr) (d : Nat) (hd : (ints l).length ≤ d) (hC : (Kd.int .u8).C wr D (ints l).length (ints l)) (hl : l.length < 1000000) :
    Calls Tryz.prog 15 #[.slice (some ⟨wr.heap.size + 1, 0, none⟩) 2 2] ((wr.alloc (.cells #[.int .u8 ((x.toNat : Nat) : Int)] 5)).alloc (.cells #[.slice D (ints l).length d, .slice (some ⟨wr.heap.size, 0, none⟩) 1 1] 24)) fun e w' => ∃ D' d', e = .returned (.slice D' (ints (l ++ [x])).length d') ∧ (Kd.int .u8).C w' D' (ints (l ++ [x])).length (ints (l ++ [x])) ∧ (ints (l ++ [x])).length ≤ d' ∧ Below wr.heap.size wr w' := by
  have hb : Below wr.heap.size wr ((wr.alloc (.cells #[.int .u8 ((x.toNat : Nat) : Int)] 5)).alloc (.cells #[.slice D (ints l).length d, .slice (some ⟨wr.heap.size, 0, none⟩) 1 1] 24)) := ((Below.refl _ wr).alloc (Nat.le_refl _) _).alloc (by simp) _
  have h2 := heap_alloc_at (w := wr.alloc (.cells #[.int .u8 ((x.toNat : Nat) : Int)] 5)) (k := wr.heap.size + 1) (by simp) (.cells #[.slice D (ints l).length d, .slice (some ⟨wr.heap.size, 0, none⟩) 1 1] 24)
  have h1 := heap_alloc_old (heap_alloc_new wr (.cells #[.int .u8 ((x.toNat : Nat) : Int)] 5)) (.cells #[.slice D (ints l).length d, .slice (some ⟨wr.heap.size, 0, none⟩) 1 1] 24)
  exact (join_two (wr.heap.size + 1) l [x] D (some ⟨wr.heap.size, 0, none⟩) d 1 ((cell_heap h2 0).trans rfl) ((cell_heap h2 1).trans rfl) hd (Nat.le_refl _) (Kd.C_below hC hb) (C_one1 ((cell_heap h1 0).trans rfl)) (by simp; omega)).mono fun e w' ⟨D', d', q1, q2, q3, q4⟩ => ⟨D', d', q1, q2, q3, hb.trans (q4.mono hb.size)⟩

theorem neg_get' (proto : Int) (plain rb sb : Bool) (ms ct fr : Int) (hf : (cfgOf plain rb sb ms ct fr).fit) (t : Int) (o : ROp) (hto : (t = 11 ∧ o = .str) ∨ (t = 13 ∧ o = .mapB) ∨ (t = 14 ∧ o = .setB) ∨ (t = 15 ∧ o = .lstB))
    (B : Option Addr) (cB : Nat) (l : List UInt8) (w : World) (hE : EofAt w) (hB : (Kd.int .u8).C w B (ints l).length (ints l)) (h1 : 1 ≤ l.length) (hl : l.length ≤ 1000000) (hk : Kinds proto (cfgOf plain rb sb ms ct fr) l o 12) :
    Calls Tryz.prog 16 #[confV proto plain rb sb ms ct fr, .int .i64 t, .slice B (ints l).length cB, .int .i64 9] w fun e w' => ∃ (f0 f1 f3 f4 : Int) (A2 A5 A6 : Option Addr) (n2 a2 n5 a5 n6 a6 : Nat) (lft : Int), e = .returned (.tuple #[.agg #[.int .i64 f0, .int .i64 f1, .slice A2 n2 a2, .int .i64 f3, .int .i64 f4, .slice A5 n5 a5, .slice A6 n6 a6], .int .i64 12, .int .i64 lft]) ∧ Below w.heap.size w w' :=
  neg_get proto plain rb sb ms ct fr hf t o hto B cB (ints l) w hE hB (fun x hx => by
    obtain ⟨y, _, rfl⟩ := List.mem_map.1 hx
    have := y.toNat_lt
    omega) (by rw [ints_length]; exact h1) (by rw [ints_length]; omega) (by rw [toB_ints]; exact hk)

set_option maxRecDepth 100000 in
set_option maxHeartbeats 40000000 in
theorem fnNegative_walk (proto : Int) (plain rb sb : Bool) (ms ct fr : Int) (n : Int) (A : Option Addr) (la ca : Nat) (zs : List Int) (w : World) (hf : (Lit.int .i64 proto).wf = true ∧ (Lit.int .i32 ms).wf = true ∧ (Lit.int .i32 ct).wf = true ∧ (Lit.int .i32 fr).wf = true)
    (hn : (Lit.int .i32 n).wf = true) (hr : IsRow .u8 w A la ca zs) (hE : EofAt w) :
    Calls Tryz.prog 3 #[confV proto plain rb sb ms ct fr, .int .i32 n, .slice A la ca] w fun e w' => e = .returned (.bool true) ∧ Below w.heap.size w w' := by
  have hf32 : (cfgOf plain rb sb ms ct fr).fit := by
    have e1 : IntKind.i32.min = -2147483648 := by decide
    have e2 : IntKind.i32.max = 2147483647 := by decide
    have h1 : IntKind.i32.min ≤ ms ∧ ms ≤ IntKind.i32.max := by simpa [Lit.wf] using hf.2.1
    have h2 : IntKind.i32.min ≤ ct ∧ ct ≤ IntKind.i32.max := by simpa [Lit.wf] using hf.2.2.1
    refine ⟨⟨?_, ?_⟩, ⟨?_, ?_⟩⟩ <;> simp only [cfgOf] <;> omega
  have hn0 : -2147483648 ≤ n ∧ n < 2147483648 := by
    have e1 : IntKind.i32.min = -2147483648 := by decide
    have e2 : IntKind.i32.max = 2147483647 := by decide
    have h1 : IntKind.i32.min ≤ n ∧ n ≤ IntKind.i32.max := by simpa [Lit.wf] using hn
    omega
  have hcapA : la ≤ ca := hr.cap
  obtain ⟨sv, rfl, hA, h8⟩ := row_bytes hr
  obtain ⟨SB, rfl⟩ : ∃ SB, sv = ints SB := ⟨toB sv, (ints_toB h8).symm⟩
  clear hr hf hn
  have hk := Lib.hid known_any
  by_cases hl2 : (ints SB).length ≤ 2147483647
  case neg =>
    have hl2' : ¬ (((ints SB).length : Int) ≤ 2147483647) := by omega
    go_enter Tryz.func3, Tryz.ntmps3
    go_wp2_with (fail)
    go_ret
    exact ⟨rfl, (Below.refl _ w).alloc (Nat.le_refl _) _⟩
  have hl2' : ((ints SB).length : Int) ≤ 2147483647 := by omega
  by_cases hm2 : (ints SB).length ≤ 65536
  case neg =>
    have hm2' : ¬ (((ints SB).length : Int) ≤ 65536) := by omega
    go_enter Tryz.func3, Tryz.ntmps3
    go_wp2_with (go_at_call 12; refine (hk.out _).mono ?_; rintro e w' ⟨rfl, hb⟩)
    go_ret
    exact ⟨rfl, ((Below.refl _ w).alloc (Nat.le_refl _) _).trans (hb.mono (by simp))⟩
  have hm2' : ((ints SB).length : Int) ≤ 65536 := by omega
  by_cases hng : n < 0
  case neg =>
    have hng' : ¬ n < 0 := hng
    go_enter Tryz.func3, Tryz.ntmps3
    go_wp2_with (go_at_call 12; refine (hk.out _).mono ?_; rintro e w' ⟨rfl, hb⟩)
    go_ret
    exact ⟨rfl, ((Below.refl _ w).alloc (Nat.le_refl _) _).trans (hb.mono (by simp))⟩
  go_enter Tryz.func3, Tryz.ntmps3
  go_wp2_with (fail)
  obtain ⟨N, hN⟩ : ∃ N : Nat, n % 4294967296 = N := ⟨(n % 4294967296).toNat, by omega⟩
  obtain ⟨W0, hW0⟩ : ∃ W0, W0 = w.alloc (.cells #[.int .i64 proto, .bool plain, .bool rb, .bool sb, .int .i32 ms, .int .i32 ct, .int .i32 fr] 23) := ⟨_, rfl⟩
  have hB0 : Below w.heap.size w W0 := by rw [hW0]; exact (Below.refl _ w).alloc (Nat.le_refl _) _
  have hb0 : W0.heap[w.heap.size]? = some (.cells #[.int .i64 proto, .bool plain, .bool rb, .bool sb, .int .i32 ms, .int .i32 ct, .int .i32 fr] 23 (0, 0)) := by rw [hW0]; exact heap_alloc_new w _
  rw [← hW0]
  clear hW0
  refine (big4_any n hn0.1 hn0.2 W0).mono ?_
  rintro e W1 ⟨v1, rfl, hR1, hB1⟩
  obtain ⟨D1, d1, rfl, hd1, hC1⟩ := Kd.R_reads hR1
  have HN := Lib.hid hN
  have hSV := seven_any N (by omega)
  rw [← hN] at hSV
  have HSV := Lib.hid hSV
  clear hR1 hN hSV
  go_wp2_with (fail)
  refine (HSV.out W1).mono ?_
  rintro e W2 ⟨v2, rfl, hR2, hB2⟩
  obtain ⟨D2, d2, rfl, hd2, hC2⟩ := Kd.R_reads hR2
  have hB02 : Below W0.heap.size W0 W2 := hB1.trans (hB2.mono hB1.size)
  have hC1' := Kd.C_below hC1 hB2
  have hA2 := Kd.C_below hA (hB0.trans (hB02.mono hB0.size))
  clear hR2
  go_wp2_with (fail)
  have HPS := Lib.hid (fun W (hB : Below W0.heap.size W0 W) => (Box7.at_ hb0).of hB (lt_heap hb0))
  have HB0 := Lib.hid hB0
  have HB02 := Lib.hid hB02
  have HC1 := Lib.hid hC1'
  have HC2 := Lib.hid hC2
  have HA2 := Lib.hid hA2
  have hNb : N < 4294967296 := by have := HN.out; omega
  have hNt : (n % 4294967296).toNat = N := by have := HN.out; omega
  have hu4 := Lib.uvarint_length64 (x := N) (by omega)
  have HBN := Lib.hid (bin_neg (cfgOf plain rb sb ms ct fr) n hn0.1 hng SB)
  have HCN := Lib.hid (cmp_neg (cfgOf plain rb sb ms ct fr) n hn0.1 hng SB)
  rw [hNt] at HCN
  have hSB2 : SB.length ≤ 65536 := by have := ints_length SB; omega
  have hup := Lib.uvarint_pos N
  have hbl : (be 4 n).length = 4 := by simp [be, Lib.beBytes_length]
  have hs0 := hB0.size
  have hs2 := hB02.size
  have hlt0 := lt_heap hb0
  clear hB0 hb0 hB1 hC1 hB2 hC2 hB02 hC1' hA2 hA
  go_loopw [9] (fun i wr => ∃ t : Int, i = .int .i64 t ∧ 11 ≤ t ∧ t ≤ 16 ∧ Hid (Below W2.heap.size W2 wr)) (fun i _ => (16 - intOf i).toNat)
  case atStart => exact ⟨11, rfl, by omega, by omega, Lib.hid (Below.refl _ _)⟩
  case round =>
    obtain ⟨t, rfl, h11, h16, HX⟩ := hrel
    have hsx := HX.out.size
    obtain ⟨p0, p1, p2, p3, p4, p5, p6⟩ := HPS.out wr (HB02.out.trans (HX.out.mono hs2))
    have ht6 : t = 11 ∨ t = 12 ∨ t = 13 ∨ t = 14 ∨ t = 15 ∨ t = 16 := by omega
    rcases ht6 with rfl | rfl | rfl | rfl | rfl | rfl
    rotate_left 5
    · go_wp2_with (go_at_call 12; refine (hk.out _).mono ?_; rintro e w' ⟨rfl, hb⟩)
      go_ret
      exact ⟨rfl, HB0.out.trans ((HB02.out.trans ((HX.out.trans (hb.mono hsx)).mono hs2)).mono hs0)⟩
    · go_wp2_with (fail)
      refine (join_head wr 3 (be 4 n) D1 d1 hd1 (Kd.C_below HC1.out HX.out) (by rw [hbl]; omega)).mono ?_
      rintro e W3 ⟨D3, d3, rfl, hC3, hd3, hB3⟩
      go_wp2_with (fail)
      refine (join_head W3 243 (Lib.uvarint N) D2 d2 hd2 (Kd.C_below HC2.out (HX.out.trans (hB3.mono hsx))) (by omega)).mono ?_
      rintro e W4 ⟨D4, d4, rfl, hC4, hd4, hB4⟩
      have HX := Lib.hid (HX.out.trans ((hB3.trans (hB4.mono hB3.size)).mono hsx))
      have hsx := HX.out.size
      have HC3 := Lib.hid (Kd.C_below hC3 hB4)
      have HC4 := Lib.hid hC4
      clear hC3 hC4 hB3 hB4 p0 p1 p2 p3 p4 p5 p6
      obtain ⟨p0, p1, p2, p3, p4, p5, p6⟩ := HPS.out W4 (HB02.out.trans (HX.out.mono hs2))
      go_wp2_with (fail)
      have HXA := HX
      refine (by_any 0 proto plain rb sb ms ct fr W4).mono ?_
      rintro e W5b ⟨rfl, hBb⟩
      have hXb := HX.out.trans (hBb.mono hsx)
      go_wp2_with (fail)
      have hBo := (Below.refl _ W5b).alloc (Nat.le_refl _) (.cells #[.slice D1 (ints (be 4 n)).length d1, .slice A (ints SB).length ca] 24)
      refine (join_two (W := W5b.alloc (.cells #[.slice D1 (ints (be 4 n)).length d1, .slice A (ints SB).length ca] 24)) W5b.heap.size (be 4 n) SB D1 A d1 ca ((cell_heap (heap_alloc_new W5b _) 0).trans rfl) ((cell_heap (heap_alloc_new W5b _) 1).trans rfl) hd1 hcapA (Kd.C_below (Kd.C_below (Kd.C_below HC1.out HX.out) hBb) hBo) (Kd.C_below HA2.out (hXb.trans (hBo.mono hXb.size))) (by (try simp only [List.length_cons, List.length_append, List.length_nil]); omega)).mono ?_
      rintro e W5j ⟨Dj, dj, rfl, hCj, hdj, hBj⟩
      have hXj := hXb.trans ((hBo.trans (hBj.mono hBo.size)).mono hXb.size)
      have HG0 := neg_get' 0 plain rb sb ms ct fr hf32 11 .str (.inl ⟨rfl, rfl⟩) Dj dj ((be 4 n) ++ SB) W5j (hE.below (HB0.out.trans ((HB02.out.trans (hXj.mono hs2)).mono hs0)) hE.lt) hCj (by (try simp only [List.length_cons, List.length_append, List.length_nil]); omega) (by (try simp only [List.length_cons, List.length_append, List.length_nil]); omega) (by exact HBN.out.1)
      skip
      have HG := Lib.hid HG0
      clear HG0
      clear hCj hdj
      go_wp2_with (fail)
      refine HG.out.mono ?_
      rintro e W5o ⟨f0, f1, f3, f4, E2, E5, E6, n2, a2, n5, a5, n6, a6, lft, rfl, hBg⟩
      have hXo := hXj.trans (hBg.mono hXj.size)
      clear p0 p1 p2 p3 p4 p5 p6
      obtain ⟨p0, p1, p2, p3, p4, p5, p6⟩ := HPS.out (W5o.alloc (.cells #[.int .i64 f0, .int .i64 f1, .slice E2 n2 a2, .int .i64 f3, .int .i64 f4, .slice E5 n5 a5, .slice E6 n6 a6] 34)) (HB02.out.trans ((hXo.alloc hXo.size _).mono hs2))
      go_wp2_with (fail)
      clear hXo
      obtain ⟨W5, hWv⟩ : ∃ W5, W5 = W5o.alloc (.cells #[.int .i64 f0, .int .i64 f1, .slice E2 n2 a2, .int .i64 f3, .int .i64 f4, .slice E5 n5 a5, .slice E6 n6 a6] 34) := ⟨_, rfl⟩
      have hBv : Below W5o.heap.size W5o W5 := by rw [hWv]; exact (Below.refl _ _).alloc (Nat.le_refl _) _
      rw [← hWv]
      have HX := Lib.hid (hXj.trans ((hBg.trans (hBv.mono hBg.size)).mono hXj.size))
      have HST := Lib.hid (hBb.trans ((hBo.trans ((hBj.trans ((hBg.trans (hBv.mono hBg.size)).mono hBj.size)).mono hBo.size)).mono hBb.size))
      clear hBb hXb hBo hBj hXj hBg HG hsx hWv hBv
      have hsx := HX.out.size
      clear p0 p1 p2 p3 p4 p5 p6
      obtain ⟨p0, p1, p2, p3, p4, p5, p6⟩ := HPS.out W5 (HB02.out.trans (HX.out.mono hs2))
      have HC4' := Lib.hid (Kd.C_below (Kd.C_below HC2.out (HXA.out)) HST.out)
      refine (by_any 1 proto plain rb sb ms ct fr W5).mono ?_
      rintro e W6b ⟨rfl, hBb⟩
      have hXb := HX.out.trans (hBb.mono hsx)
      go_wp2_with (fail)
      have hBo := (Below.refl _ W6b).alloc (Nat.le_refl _) (.cells #[.slice D2 (ints (Lib.uvarint N)).length d2, .slice A (ints SB).length ca] 24)
      refine (join_two (W := W6b.alloc (.cells #[.slice D2 (ints (Lib.uvarint N)).length d2, .slice A (ints SB).length ca] 24)) W6b.heap.size (Lib.uvarint N) SB D2 A d2 ca ((cell_heap (heap_alloc_new W6b _) 0).trans rfl) ((cell_heap (heap_alloc_new W6b _) 1).trans rfl) hd2 hcapA (Kd.C_below (Kd.C_below HC4'.out hBb) hBo) (Kd.C_below HA2.out (hXb.trans (hBo.mono hXb.size))) (by (try simp only [List.length_cons, List.length_append, List.length_nil]); omega)).mono ?_
      rintro e W6j ⟨Dj, dj, rfl, hCj, hdj, hBj⟩
      have hXj := hXb.trans ((hBo.trans (hBj.mono hBo.size)).mono hXb.size)
      have HG0 := neg_get' 1 plain rb sb ms ct fr hf32 11 .str (.inl ⟨rfl, rfl⟩) Dj dj ((Lib.uvarint N) ++ SB) W6j (hE.below (HB0.out.trans ((HB02.out.trans (hXj.mono hs2)).mono hs0)) hE.lt) hCj (by (try simp only [List.length_cons, List.length_append, List.length_nil]); omega) (by (try simp only [List.length_cons, List.length_append, List.length_nil]); omega) (by exact HCN.out.1)
      skip
      have HG := Lib.hid HG0
      clear HG0
      clear hCj hdj
      go_wp2_with (fail)
      refine HG.out.mono ?_
      rintro e W6o ⟨f0, f1, f3, f4, E2, E5, E6, n2, a2, n5, a5, n6, a6, lft, rfl, hBg⟩
      have hXo := hXj.trans (hBg.mono hXj.size)
      clear p0 p1 p2 p3 p4 p5 p6
      obtain ⟨p0, p1, p2, p3, p4, p5, p6⟩ := HPS.out (W6o.alloc (.cells #[.int .i64 f0, .int .i64 f1, .slice E2 n2 a2, .int .i64 f3, .int .i64 f4, .slice E5 n5 a5, .slice E6 n6 a6] 34)) (HB02.out.trans ((hXo.alloc hXo.size _).mono hs2))
      go_wp2_with (fail)
      clear hXo
      obtain ⟨W6, hWv⟩ : ∃ W6, W6 = W6o.alloc (.cells #[.int .i64 f0, .int .i64 f1, .slice E2 n2 a2, .int .i64 f3, .int .i64 f4, .slice E5 n5 a5, .slice E6 n6 a6] 34) := ⟨_, rfl⟩
      have hBv : Below W6o.heap.size W6o W6 := by rw [hWv]; exact (Below.refl _ _).alloc (Nat.le_refl _) _
      rw [← hWv]
      have HX := Lib.hid (hXj.trans ((hBg.trans (hBv.mono hBg.size)).mono hXj.size))
      have HST := Lib.hid (hBb.trans ((hBo.trans ((hBj.trans ((hBg.trans (hBv.mono hBg.size)).mono hBj.size)).mono hBo.size)).mono hBb.size))
      clear hBb hXb hBo hBj hXj hBg HG hsx hWv hBv
      have hsx := HX.out.size
      clear p0 p1 p2 p3 p4 p5 p6
      obtain ⟨p0, p1, p2, p3, p4, p5, p6⟩ := HPS.out W6 (HB02.out.trans (HX.out.mono hs2))
      go_wp2
      go_roundw
      case rel => exact (show ∃ t : Int, (Value.int .i64 12) = .int .i64 t ∧ 11 ≤ t ∧ t ≤ 16 ∧ Hid (Below W2.heap.size W2 _) from ⟨12, rfl, by omega, by omega, HX⟩)
      case measure => simp [intOf]
    · go_wp2_with (fail)
      refine (join_head wr 3 (be 4 n) D1 d1 hd1 (Kd.C_below HC1.out HX.out) (by rw [hbl]; omega)).mono ?_
      rintro e W3 ⟨D3, d3, rfl, hC3, hd3, hB3⟩
      go_wp2_with (fail)
      refine (join_head W3 243 (Lib.uvarint N) D2 d2 hd2 (Kd.C_below HC2.out (HX.out.trans (hB3.mono hsx))) (by omega)).mono ?_
      rintro e W4 ⟨D4, d4, rfl, hC4, hd4, hB4⟩
      have HX := Lib.hid (HX.out.trans ((hB3.trans (hB4.mono hB3.size)).mono hsx))
      have hsx := HX.out.size
      have HC3 := Lib.hid (Kd.C_below hC3 hB4)
      have HC4 := Lib.hid hC4
      clear hC3 hC4 hB3 hB4 p0 p1 p2 p3 p4 p5 p6
      obtain ⟨p0, p1, p2, p3, p4, p5, p6⟩ := HPS.out W4 (HB02.out.trans (HX.out.mono hs2))
      go_wp2
      go_roundw
      case rel => exact (show ∃ t : Int, (Value.int .i64 13) = .int .i64 t ∧ 11 ≤ t ∧ t ≤ 16 ∧ Hid (Below W2.heap.size W2 W4) from ⟨13, rfl, by omega, by omega, HX⟩)
      case measure => simp [intOf]
    · go_wp2_with (fail)
      refine (join_head wr 3 (be 4 n) D1 d1 hd1 (Kd.C_below HC1.out HX.out) (by rw [hbl]; omega)).mono ?_
      rintro e W3 ⟨D3, d3, rfl, hC3, hd3, hB3⟩
      go_wp2_with (fail)
      refine (join_head W3 243 (Lib.uvarint N) D2 d2 hd2 (Kd.C_below HC2.out (HX.out.trans (hB3.mono hsx))) (by omega)).mono ?_
      rintro e W4 ⟨D4, d4, rfl, hC4, hd4, hB4⟩
      have HX := Lib.hid (HX.out.trans ((hB3.trans (hB4.mono hB3.size)).mono hsx))
      have hsx := HX.out.size
      have HC3 := Lib.hid (Kd.C_below hC3 hB4)
      have HC4 := Lib.hid hC4
      clear hC3 hC4 hB3 hB4 p0 p1 p2 p3 p4 p5 p6
      obtain ⟨p0, p1, p2, p3, p4, p5, p6⟩ := HPS.out W4 (HB02.out.trans (HX.out.mono hs2))
      go_wp2_with (fail)
      refine (join_head2 W4 3 3 (be 4 n) D1 d1 hd1 (Kd.C_below HC1.out HX.out) (by rw [hbl]; omega)).mono ?_
      rintro e W7 ⟨D7, d7, rfl, hC7, hd7, hB7⟩
      go_wp2_with (fail)
      refine (join_tail W7 51 (Lib.uvarint N) D2 d2 hd2 (Kd.C_below HC2.out (HX.out.trans (hB7.mono hsx))) (by omega)).mono ?_
      rintro e W8 ⟨D8, d8, rfl, hC8, hd8, hB8⟩
      have HX := Lib.hid (HX.out.trans ((hB7.trans (hB8.mono hB7.size)).mono hsx))
      have hsx := HX.out.size
      have HC7 := Lib.hid (Kd.C_below hC7 hB8)
      have HC8 := Lib.hid hC8
      clear hC7 hC8 hB7 hB8 p0 p1 p2 p3 p4 p5 p6
      obtain ⟨p0, p1, p2, p3, p4, p5, p6⟩ := HPS.out W8 (HB02.out.trans (HX.out.mono hs2))
      go_wp2_with (fail)
      have HXA := HX
      refine (by_any 0 proto plain rb sb ms ct fr W8).mono ?_
      rintro e W5b ⟨rfl, hBb⟩
      have hXb := HX.out.trans (hBb.mono hsx)
      go_wp2_with (fail)
      have hBo := (Below.refl _ W5b).alloc (Nat.le_refl _) (.cells #[.slice D7 (ints ((3 : UInt8) :: (3 : UInt8) :: be 4 n)).length d7, .slice A (ints SB).length ca] 24)
      refine (join_two (W := W5b.alloc (.cells #[.slice D7 (ints ((3 : UInt8) :: (3 : UInt8) :: be 4 n)).length d7, .slice A (ints SB).length ca] 24)) W5b.heap.size ((3 : UInt8) :: (3 : UInt8) :: be 4 n) SB D7 A d7 ca ((cell_heap (heap_alloc_new W5b _) 0).trans rfl) ((cell_heap (heap_alloc_new W5b _) 1).trans rfl) hd7 hcapA (Kd.C_below (Kd.C_below HC7.out hBb) hBo) (Kd.C_below HA2.out (hXb.trans (hBo.mono hXb.size))) (by (try simp only [List.length_cons, List.length_append, List.length_nil]); omega)).mono ?_
      rintro e W5j ⟨Dj, dj, rfl, hCj, hdj, hBj⟩
      have hXj := hXb.trans ((hBo.trans (hBj.mono hBo.size)).mono hXb.size)
      have HG0 := neg_get' 0 plain rb sb ms ct fr hf32 13 .mapB (.inr (.inl ⟨rfl, rfl⟩)) Dj dj (((3 : UInt8) :: (3 : UInt8) :: be 4 n) ++ SB) W5j (hE.below (HB0.out.trans ((HB02.out.trans (hXj.mono hs2)).mono hs0)) hE.lt) hCj (by (try simp only [List.length_cons, List.length_append, List.length_nil]); omega) (by (try simp only [List.length_cons, List.length_append, List.length_nil]); omega) (by exact HBN.out.2.2.2)
      simp only [List.cons_append, List.append_assoc, List.nil_append] at HG0
      have HG := Lib.hid HG0
      clear HG0
      clear hCj hdj
      go_wp2_with (fail)
      refine HG.out.mono ?_
      rintro e W5o ⟨f0, f1, f3, f4, E2, E5, E6, n2, a2, n5, a5, n6, a6, lft, rfl, hBg⟩
      have hXo := hXj.trans (hBg.mono hXj.size)
      clear p0 p1 p2 p3 p4 p5 p6
      obtain ⟨p0, p1, p2, p3, p4, p5, p6⟩ := HPS.out (W5o.alloc (.cells #[.int .i64 f0, .int .i64 f1, .slice E2 n2 a2, .int .i64 f3, .int .i64 f4, .slice E5 n5 a5, .slice E6 n6 a6] 34)) (HB02.out.trans ((hXo.alloc hXo.size _).mono hs2))
      go_wp2_with (fail)
      clear hXo
      obtain ⟨W5, hWv⟩ : ∃ W5, W5 = W5o.alloc (.cells #[.int .i64 f0, .int .i64 f1, .slice E2 n2 a2, .int .i64 f3, .int .i64 f4, .slice E5 n5 a5, .slice E6 n6 a6] 34) := ⟨_, rfl⟩
      have hBv : Below W5o.heap.size W5o W5 := by rw [hWv]; exact (Below.refl _ _).alloc (Nat.le_refl _) _
      rw [← hWv]
      have HX := Lib.hid (hXj.trans ((hBg.trans (hBv.mono hBg.size)).mono hXj.size))
      have HST := Lib.hid (hBb.trans ((hBo.trans ((hBj.trans ((hBg.trans (hBv.mono hBg.size)).mono hBj.size)).mono hBo.size)).mono hBb.size))
      clear hBb hXb hBo hBj hXj hBg HG hsx hWv hBv
      have hsx := HX.out.size
      clear p0 p1 p2 p3 p4 p5 p6
      obtain ⟨p0, p1, p2, p3, p4, p5, p6⟩ := HPS.out W5 (HB02.out.trans (HX.out.mono hs2))
      have HC4' := Lib.hid (Kd.C_below (HC8.out) HST.out)
      refine (by_any 1 proto plain rb sb ms ct fr W5).mono ?_
      rintro e W6b ⟨rfl, hBb⟩
      have hXb := HX.out.trans (hBb.mono hsx)
      go_wp2_with (fail)
      have hBo := (Below.refl _ W6b).alloc (Nat.le_refl _) (.cells #[.slice D8 (ints (Lib.uvarint N ++ [(51 : UInt8)])).length d8, .slice A (ints SB).length ca] 24)
      refine (join_two (W := W6b.alloc (.cells #[.slice D8 (ints (Lib.uvarint N ++ [(51 : UInt8)])).length d8, .slice A (ints SB).length ca] 24)) W6b.heap.size (Lib.uvarint N ++ [(51 : UInt8)]) SB D8 A d8 ca ((cell_heap (heap_alloc_new W6b _) 0).trans rfl) ((cell_heap (heap_alloc_new W6b _) 1).trans rfl) hd8 hcapA (Kd.C_below (Kd.C_below HC4'.out hBb) hBo) (Kd.C_below HA2.out (hXb.trans (hBo.mono hXb.size))) (by (try simp only [List.length_cons, List.length_append, List.length_nil]); omega)).mono ?_
      rintro e W6j ⟨Dj, dj, rfl, hCj, hdj, hBj⟩
      have hXj := hXb.trans ((hBo.trans (hBj.mono hBo.size)).mono hXb.size)
      have HG0 := neg_get' 1 plain rb sb ms ct fr hf32 13 .mapB (.inr (.inl ⟨rfl, rfl⟩)) Dj dj ((Lib.uvarint N ++ [(51 : UInt8)]) ++ SB) W6j (hE.below (HB0.out.trans ((HB02.out.trans (hXj.mono hs2)).mono hs0)) hE.lt) hCj (by (try simp only [List.length_cons, List.length_append, List.length_nil]); omega) (by (try simp only [List.length_cons, List.length_append, List.length_nil]); omega) (by rw [List.append_assoc]; exact HCN.out.2.2.2)
      simp only [List.cons_append, List.append_assoc, List.nil_append] at HG0
      have HG := Lib.hid HG0
      clear HG0
      clear hCj hdj
      go_wp2_with (fail)
      refine HG.out.mono ?_
      rintro e W6o ⟨f0, f1, f3, f4, E2, E5, E6, n2, a2, n5, a5, n6, a6, lft, rfl, hBg⟩
      have hXo := hXj.trans (hBg.mono hXj.size)
      clear p0 p1 p2 p3 p4 p5 p6
      obtain ⟨p0, p1, p2, p3, p4, p5, p6⟩ := HPS.out (W6o.alloc (.cells #[.int .i64 f0, .int .i64 f1, .slice E2 n2 a2, .int .i64 f3, .int .i64 f4, .slice E5 n5 a5, .slice E6 n6 a6] 34)) (HB02.out.trans ((hXo.alloc hXo.size _).mono hs2))
      go_wp2_with (fail)
      clear hXo
      obtain ⟨W6, hWv⟩ : ∃ W6, W6 = W6o.alloc (.cells #[.int .i64 f0, .int .i64 f1, .slice E2 n2 a2, .int .i64 f3, .int .i64 f4, .slice E5 n5 a5, .slice E6 n6 a6] 34) := ⟨_, rfl⟩
      have hBv : Below W6o.heap.size W6o W6 := by rw [hWv]; exact (Below.refl _ _).alloc (Nat.le_refl _) _
      rw [← hWv]
      have HX := Lib.hid (hXj.trans ((hBg.trans (hBv.mono hBg.size)).mono hXj.size))
      have HST := Lib.hid (hBb.trans ((hBo.trans ((hBj.trans ((hBg.trans (hBv.mono hBg.size)).mono hBj.size)).mono hBo.size)).mono hBb.size))
      clear hBb hXb hBo hBj hXj hBg HG hsx hWv hBv
      have hsx := HX.out.size
      clear p0 p1 p2 p3 p4 p5 p6
      obtain ⟨p0, p1, p2, p3, p4, p5, p6⟩ := HPS.out W6 (HB02.out.trans (HX.out.mono hs2))
      go_wp2
      go_roundw
      case rel => exact (show ∃ t : Int, (Value.int .i64 14) = .int .i64 t ∧ 11 ≤ t ∧ t ≤ 16 ∧ Hid (Below W2.heap.size W2 _) from ⟨14, rfl, by omega, by omega, HX⟩)
      case measure => simp [intOf]
    · go_wp2_with (fail)
      refine (join_head wr 3 (be 4 n) D1 d1 hd1 (Kd.C_below HC1.out HX.out) (by rw [hbl]; omega)).mono ?_
      rintro e W3 ⟨D3, d3, rfl, hC3, hd3, hB3⟩
      go_wp2_with (fail)
      refine (join_head W3 243 (Lib.uvarint N) D2 d2 hd2 (Kd.C_below HC2.out (HX.out.trans (hB3.mono hsx))) (by omega)).mono ?_
      rintro e W4 ⟨D4, d4, rfl, hC4, hd4, hB4⟩
      have HX := Lib.hid (HX.out.trans ((hB3.trans (hB4.mono hB3.size)).mono hsx))
      have hsx := HX.out.size
      have HC3 := Lib.hid (Kd.C_below hC3 hB4)
      have HC4 := Lib.hid hC4
      clear hC3 hC4 hB3 hB4 p0 p1 p2 p3 p4 p5 p6
      obtain ⟨p0, p1, p2, p3, p4, p5, p6⟩ := HPS.out W4 (HB02.out.trans (HX.out.mono hs2))
      go_wp2_with (fail)
      have HXA := HX
      refine (by_any 0 proto plain rb sb ms ct fr W4).mono ?_
      rintro e W5b ⟨rfl, hBb⟩
      have hXb := HX.out.trans (hBb.mono hsx)
      go_wp2_with (fail)
      have hBo := (Below.refl _ W5b).alloc (Nat.le_refl _) (.cells #[.slice D3 (ints ((3 : UInt8) :: be 4 n)).length d3, .slice A (ints SB).length ca] 24)
      refine (join_two (W := W5b.alloc (.cells #[.slice D3 (ints ((3 : UInt8) :: be 4 n)).length d3, .slice A (ints SB).length ca] 24)) W5b.heap.size ((3 : UInt8) :: be 4 n) SB D3 A d3 ca ((cell_heap (heap_alloc_new W5b _) 0).trans rfl) ((cell_heap (heap_alloc_new W5b _) 1).trans rfl) hd3 hcapA (Kd.C_below (Kd.C_below HC3.out hBb) hBo) (Kd.C_below HA2.out (hXb.trans (hBo.mono hXb.size))) (by (try simp only [List.length_cons, List.length_append, List.length_nil]); omega)).mono ?_
      rintro e W5j ⟨Dj, dj, rfl, hCj, hdj, hBj⟩
      have hXj := hXb.trans ((hBo.trans (hBj.mono hBo.size)).mono hXb.size)
      have HG0 := neg_get' 0 plain rb sb ms ct fr hf32 14 .setB (.inr (.inr (.inl ⟨rfl, rfl⟩))) Dj dj (((3 : UInt8) :: be 4 n) ++ SB) W5j (hE.below (HB0.out.trans ((HB02.out.trans (hXj.mono hs2)).mono hs0)) hE.lt) hCj (by (try simp only [List.length_cons, List.length_append, List.length_nil]); omega) (by (try simp only [List.length_cons, List.length_append, List.length_nil]); omega) (by exact HBN.out.2.2.1)
      simp only [List.cons_append, List.append_assoc, List.nil_append] at HG0
      have HG := Lib.hid HG0
      clear HG0
      clear hCj hdj
      go_wp2_with (fail)
      refine HG.out.mono ?_
      rintro e W5o ⟨f0, f1, f3, f4, E2, E5, E6, n2, a2, n5, a5, n6, a6, lft, rfl, hBg⟩
      have hXo := hXj.trans (hBg.mono hXj.size)
      clear p0 p1 p2 p3 p4 p5 p6
      obtain ⟨p0, p1, p2, p3, p4, p5, p6⟩ := HPS.out (W5o.alloc (.cells #[.int .i64 f0, .int .i64 f1, .slice E2 n2 a2, .int .i64 f3, .int .i64 f4, .slice E5 n5 a5, .slice E6 n6 a6] 34)) (HB02.out.trans ((hXo.alloc hXo.size _).mono hs2))
      go_wp2_with (fail)
      clear hXo
      obtain ⟨W5, hWv⟩ : ∃ W5, W5 = W5o.alloc (.cells #[.int .i64 f0, .int .i64 f1, .slice E2 n2 a2, .int .i64 f3, .int .i64 f4, .slice E5 n5 a5, .slice E6 n6 a6] 34) := ⟨_, rfl⟩
      have hBv : Below W5o.heap.size W5o W5 := by rw [hWv]; exact (Below.refl _ _).alloc (Nat.le_refl _) _
      rw [← hWv]
      have HX := Lib.hid (hXj.trans ((hBg.trans (hBv.mono hBg.size)).mono hXj.size))
      have HST := Lib.hid (hBb.trans ((hBo.trans ((hBj.trans ((hBg.trans (hBv.mono hBg.size)).mono hBj.size)).mono hBo.size)).mono hBb.size))
      clear hBb hXb hBo hBj hXj hBg HG hsx hWv hBv
      have hsx := HX.out.size
      clear p0 p1 p2 p3 p4 p5 p6
      obtain ⟨p0, p1, p2, p3, p4, p5, p6⟩ := HPS.out W5 (HB02.out.trans (HX.out.mono hs2))
      have HC4' := Lib.hid (Kd.C_below (HC4.out) HST.out)
      refine (by_any 1 proto plain rb sb ms ct fr W5).mono ?_
      rintro e W6b ⟨rfl, hBb⟩
      have hXb := HX.out.trans (hBb.mono hsx)
      go_wp2_with (fail)
      have hBo := (Below.refl _ W6b).alloc (Nat.le_refl _) (.cells #[.slice D4 (ints ((243 : UInt8) :: Lib.uvarint N)).length d4, .slice A (ints SB).length ca] 24)
      refine (join_two (W := W6b.alloc (.cells #[.slice D4 (ints ((243 : UInt8) :: Lib.uvarint N)).length d4, .slice A (ints SB).length ca] 24)) W6b.heap.size ((243 : UInt8) :: Lib.uvarint N) SB D4 A d4 ca ((cell_heap (heap_alloc_new W6b _) 0).trans rfl) ((cell_heap (heap_alloc_new W6b _) 1).trans rfl) hd4 hcapA (Kd.C_below (Kd.C_below HC4'.out hBb) hBo) (Kd.C_below HA2.out (hXb.trans (hBo.mono hXb.size))) (by (try simp only [List.length_cons, List.length_append, List.length_nil]); omega)).mono ?_
      rintro e W6j ⟨Dj, dj, rfl, hCj, hdj, hBj⟩
      have hXj := hXb.trans ((hBo.trans (hBj.mono hBo.size)).mono hXb.size)
      have HG0 := neg_get' 1 plain rb sb ms ct fr hf32 14 .setB (.inr (.inr (.inl ⟨rfl, rfl⟩))) Dj dj (((243 : UInt8) :: Lib.uvarint N) ++ SB) W6j (hE.below (HB0.out.trans ((HB02.out.trans (hXj.mono hs2)).mono hs0)) hE.lt) hCj (by (try simp only [List.length_cons, List.length_append, List.length_nil]); omega) (by (try simp only [List.length_cons, List.length_append, List.length_nil]); omega) (by exact HCN.out.2.2.1)
      simp only [List.cons_append, List.append_assoc, List.nil_append] at HG0
      have HG := Lib.hid HG0
      clear HG0
      clear hCj hdj
      go_wp2_with (fail)
      refine HG.out.mono ?_
      rintro e W6o ⟨f0, f1, f3, f4, E2, E5, E6, n2, a2, n5, a5, n6, a6, lft, rfl, hBg⟩
      have hXo := hXj.trans (hBg.mono hXj.size)
      clear p0 p1 p2 p3 p4 p5 p6
      obtain ⟨p0, p1, p2, p3, p4, p5, p6⟩ := HPS.out (W6o.alloc (.cells #[.int .i64 f0, .int .i64 f1, .slice E2 n2 a2, .int .i64 f3, .int .i64 f4, .slice E5 n5 a5, .slice E6 n6 a6] 34)) (HB02.out.trans ((hXo.alloc hXo.size _).mono hs2))
      go_wp2_with (fail)
      clear hXo
      obtain ⟨W6, hWv⟩ : ∃ W6, W6 = W6o.alloc (.cells #[.int .i64 f0, .int .i64 f1, .slice E2 n2 a2, .int .i64 f3, .int .i64 f4, .slice E5 n5 a5, .slice E6 n6 a6] 34) := ⟨_, rfl⟩
      have hBv : Below W6o.heap.size W6o W6 := by rw [hWv]; exact (Below.refl _ _).alloc (Nat.le_refl _) _
      rw [← hWv]
      have HX := Lib.hid (hXj.trans ((hBg.trans (hBv.mono hBg.size)).mono hXj.size))
      have HST := Lib.hid (hBb.trans ((hBo.trans ((hBj.trans ((hBg.trans (hBv.mono hBg.size)).mono hBj.size)).mono hBo.size)).mono hBb.size))
      clear hBb hXb hBo hBj hXj hBg HG hsx hWv hBv
      have hsx := HX.out.size
      clear p0 p1 p2 p3 p4 p5 p6
      obtain ⟨p0, p1, p2, p3, p4, p5, p6⟩ := HPS.out W6 (HB02.out.trans (HX.out.mono hs2))
      go_wp2
      go_roundw
      case rel => exact (show ∃ t : Int, (Value.int .i64 15) = .int .i64 t ∧ 11 ≤ t ∧ t ≤ 16 ∧ Hid (Below W2.heap.size W2 _) from ⟨15, rfl, by omega, by omega, HX⟩)
      case measure => simp [intOf]
    · go_wp2_with (fail)
      refine (join_head wr 3 (be 4 n) D1 d1 hd1 (Kd.C_below HC1.out HX.out) (by rw [hbl]; omega)).mono ?_
      rintro e W3 ⟨D3, d3, rfl, hC3, hd3, hB3⟩
      go_wp2_with (fail)
      refine (join_head W3 243 (Lib.uvarint N) D2 d2 hd2 (Kd.C_below HC2.out (HX.out.trans (hB3.mono hsx))) (by omega)).mono ?_
      rintro e W4 ⟨D4, d4, rfl, hC4, hd4, hB4⟩
      have HX := Lib.hid (HX.out.trans ((hB3.trans (hB4.mono hB3.size)).mono hsx))
      have hsx := HX.out.size
      have HC3 := Lib.hid (Kd.C_below hC3 hB4)
      have HC4 := Lib.hid hC4
      clear hC3 hC4 hB3 hB4 p0 p1 p2 p3 p4 p5 p6
      obtain ⟨p0, p1, p2, p3, p4, p5, p6⟩ := HPS.out W4 (HB02.out.trans (HX.out.mono hs2))
      go_wp2_with (fail)
      have HXA := HX
      refine (by_any 0 proto plain rb sb ms ct fr W4).mono ?_
      rintro e W5b ⟨rfl, hBb⟩
      have hXb := HX.out.trans (hBb.mono hsx)
      go_wp2_with (fail)
      have hBo := (Below.refl _ W5b).alloc (Nat.le_refl _) (.cells #[.slice D3 (ints ((3 : UInt8) :: be 4 n)).length d3, .slice A (ints SB).length ca] 24)
      refine (join_two (W := W5b.alloc (.cells #[.slice D3 (ints ((3 : UInt8) :: be 4 n)).length d3, .slice A (ints SB).length ca] 24)) W5b.heap.size ((3 : UInt8) :: be 4 n) SB D3 A d3 ca ((cell_heap (heap_alloc_new W5b _) 0).trans rfl) ((cell_heap (heap_alloc_new W5b _) 1).trans rfl) hd3 hcapA (Kd.C_below (Kd.C_below HC3.out hBb) hBo) (Kd.C_below HA2.out (hXb.trans (hBo.mono hXb.size))) (by (try simp only [List.length_cons, List.length_append, List.length_nil]); omega)).mono ?_
      rintro e W5j ⟨Dj, dj, rfl, hCj, hdj, hBj⟩
      have hXj := hXb.trans ((hBo.trans (hBj.mono hBo.size)).mono hXb.size)
      have HG0 := neg_get' 0 plain rb sb ms ct fr hf32 15 .lstB (.inr (.inr (.inr ⟨rfl, rfl⟩))) Dj dj (((3 : UInt8) :: be 4 n) ++ SB) W5j (hE.below (HB0.out.trans ((HB02.out.trans (hXj.mono hs2)).mono hs0)) hE.lt) hCj (by (try simp only [List.length_cons, List.length_append, List.length_nil]); omega) (by (try simp only [List.length_cons, List.length_append, List.length_nil]); omega) (by exact HBN.out.2.1)
      simp only [List.cons_append, List.append_assoc, List.nil_append] at HG0
      have HG := Lib.hid HG0
      clear HG0
      clear hCj hdj
      go_wp2_with (fail)
      refine HG.out.mono ?_
      rintro e W5o ⟨f0, f1, f3, f4, E2, E5, E6, n2, a2, n5, a5, n6, a6, lft, rfl, hBg⟩
      have hXo := hXj.trans (hBg.mono hXj.size)
      clear p0 p1 p2 p3 p4 p5 p6
      obtain ⟨p0, p1, p2, p3, p4, p5, p6⟩ := HPS.out (W5o.alloc (.cells #[.int .i64 f0, .int .i64 f1, .slice E2 n2 a2, .int .i64 f3, .int .i64 f4, .slice E5 n5 a5, .slice E6 n6 a6] 34)) (HB02.out.trans ((hXo.alloc hXo.size _).mono hs2))
      go_wp2_with (fail)
      clear hXo
      obtain ⟨W5, hWv⟩ : ∃ W5, W5 = W5o.alloc (.cells #[.int .i64 f0, .int .i64 f1, .slice E2 n2 a2, .int .i64 f3, .int .i64 f4, .slice E5 n5 a5, .slice E6 n6 a6] 34) := ⟨_, rfl⟩
      have hBv : Below W5o.heap.size W5o W5 := by rw [hWv]; exact (Below.refl _ _).alloc (Nat.le_refl _) _
      rw [← hWv]
      have HX := Lib.hid (hXj.trans ((hBg.trans (hBv.mono hBg.size)).mono hXj.size))
      have HST := Lib.hid (hBb.trans ((hBo.trans ((hBj.trans ((hBg.trans (hBv.mono hBg.size)).mono hBj.size)).mono hBo.size)).mono hBb.size))
      clear hBb hXb hBo hBj hXj hBg HG hsx hWv hBv
      have hsx := HX.out.size
      clear p0 p1 p2 p3 p4 p5 p6
      obtain ⟨p0, p1, p2, p3, p4, p5, p6⟩ := HPS.out W5 (HB02.out.trans (HX.out.mono hs2))
      have HC4' := Lib.hid (Kd.C_below (HC4.out) HST.out)
      refine (by_any 1 proto plain rb sb ms ct fr W5).mono ?_
      rintro e W6b ⟨rfl, hBb⟩
      have hXb := HX.out.trans (hBb.mono hsx)
      go_wp2_with (fail)
      have hBo := (Below.refl _ W6b).alloc (Nat.le_refl _) (.cells #[.slice D4 (ints ((243 : UInt8) :: Lib.uvarint N)).length d4, .slice A (ints SB).length ca] 24)
      refine (join_two (W := W6b.alloc (.cells #[.slice D4 (ints ((243 : UInt8) :: Lib.uvarint N)).length d4, .slice A (ints SB).length ca] 24)) W6b.heap.size ((243 : UInt8) :: Lib.uvarint N) SB D4 A d4 ca ((cell_heap (heap_alloc_new W6b _) 0).trans rfl) ((cell_heap (heap_alloc_new W6b _) 1).trans rfl) hd4 hcapA (Kd.C_below (Kd.C_below HC4'.out hBb) hBo) (Kd.C_below HA2.out (hXb.trans (hBo.mono hXb.size))) (by (try simp only [List.length_cons, List.length_append, List.length_nil]); omega)).mono ?_
      rintro e W6j ⟨Dj, dj, rfl, hCj, hdj, hBj⟩
      have hXj := hXb.trans ((hBo.trans (hBj.mono hBo.size)).mono hXb.size)
      have HG0 := neg_get' 1 plain rb sb ms ct fr hf32 15 .lstB (.inr (.inr (.inr ⟨rfl, rfl⟩))) Dj dj (((243 : UInt8) :: Lib.uvarint N) ++ SB) W6j (hE.below (HB0.out.trans ((HB02.out.trans (hXj.mono hs2)).mono hs0)) hE.lt) hCj (by (try simp only [List.length_cons, List.length_append, List.length_nil]); omega) (by (try simp only [List.length_cons, List.length_append, List.length_nil]); omega) (by exact HCN.out.2.1)
      simp only [List.cons_append, List.append_assoc, List.nil_append] at HG0
      have HG := Lib.hid HG0
      clear HG0
      clear hCj hdj
      go_wp2_with (fail)
      refine HG.out.mono ?_
      rintro e W6o ⟨f0, f1, f3, f4, E2, E5, E6, n2, a2, n5, a5, n6, a6, lft, rfl, hBg⟩
      have hXo := hXj.trans (hBg.mono hXj.size)
      clear p0 p1 p2 p3 p4 p5 p6
      obtain ⟨p0, p1, p2, p3, p4, p5, p6⟩ := HPS.out (W6o.alloc (.cells #[.int .i64 f0, .int .i64 f1, .slice E2 n2 a2, .int .i64 f3, .int .i64 f4, .slice E5 n5 a5, .slice E6 n6 a6] 34)) (HB02.out.trans ((hXo.alloc hXo.size _).mono hs2))
      go_wp2_with (fail)
      clear hXo
      obtain ⟨W6, hWv⟩ : ∃ W6, W6 = W6o.alloc (.cells #[.int .i64 f0, .int .i64 f1, .slice E2 n2 a2, .int .i64 f3, .int .i64 f4, .slice E5 n5 a5, .slice E6 n6 a6] 34) := ⟨_, rfl⟩
      have hBv : Below W6o.heap.size W6o W6 := by rw [hWv]; exact (Below.refl _ _).alloc (Nat.le_refl _) _
      rw [← hWv]
      have HX := Lib.hid (hXj.trans ((hBg.trans (hBv.mono hBg.size)).mono hXj.size))
      have HST := Lib.hid (hBb.trans ((hBo.trans ((hBj.trans ((hBg.trans (hBv.mono hBg.size)).mono hBj.size)).mono hBo.size)).mono hBb.size))
      clear hBb hXb hBo hBj hXj hBg HG hsx hWv hBv
      have hsx := HX.out.size
      clear p0 p1 p2 p3 p4 p5 p6
      obtain ⟨p0, p1, p2, p3, p4, p5, p6⟩ := HPS.out W6 (HB02.out.trans (HX.out.mono hs2))
      go_wp2
      go_roundw
      case rel => exact (show ∃ t : Int, (Value.int .i64 16) = .int .i64 t ∧ 11 ≤ t ∧ t ≤ 16 ∧ Hid (Below W2.heap.size W2 _) from ⟨16, rfl, by omega, by omega, HX⟩)
      case measure => simp [intOf]

end Go.Proofs.YtelocgemofghaaaGreatDoor

/- The walk of FnCompactLists. -/
import Derived.Test.YthmkkbihfdcbiaaGreatDoorMx
import Derived.Test.YthmkkbihfdcbiaaGreatDoorMr
import Derived.Test.YthmkkbihfdcbiaaGreatDoorMb2
namespace Go.Proofs.YthmkkbihfdcbiaaGreatDoor
open Go.RowKit Go.Deep
set_option linter.unusedVariables false
set_option linter.unusedSimpArgs false
open Go.Proofs.YthmkkbihfdcbiaaGreatDoorW.PrintWords

theorem isType_any' {t : Int} {b : Bool} (h : laws_isType.f t = some b) (w : World) : Calls Tryz.prog 26 #[.int .i64 t] w fun e w' => e = .returned (.bool b) ∧ Below w.heap.size w w' :=
  (laws_isType.calls t b w h).mono fun _ _ h => ⟨h.1, h.2.below⟩

theorem compactType_any' {t : Int} (h : laws_isType.f t = some true) (w : World) : Calls Tryz.prog 27 #[.int .i64 t] w fun e w' => e = .returned (.int .u8 (cCode t : Int)) ∧ Below w.heap.size w w' :=
  (laws_compactType.calls t _ w (cType_cCode h).1).mono fun _ _ h => ⟨h.1, h.2.below⟩

theorem isWide_any' {proto : Int} {plain rb sb : Bool} {ms ct fr : Int} {b : Bool} (h : laws_isWide.f proto plain rb sb ms ct fr = some b) (w : World) : Calls Tryz.prog 23 #[.agg #[.int .i64 proto, .bool plain, .bool rb, .bool sb, .int .i32 ms, .int .i32 ct, .int .i32 fr]] w fun e w' => e = .returned (.bool b) ∧ Below w.heap.size w w' :=
  laws_isWide.calls proto plain rb sb ms ct fr b w h

theorem two_bits' : ∀ a b : Fin 14, bits .or .u8 (((a.val : Nat) : Int) * 16 % 256) ((b.val : Nat) : Int) = ((a.val * 16 + b.val : Nat) : Int) := by decide +kernel

theorem two_byte' {a b : Nat} (ha : a ≤ 13) (hb : b ≤ 13) : [bits .or .u8 ((a : Int) * 16 % 256) (b : Int)] = ints [(a * 16 + b).toUInt8] := by
  have h := two_bits' ⟨a, by omega⟩ ⟨b, by omega⟩
  simp only at h
  rw [h, ints, List.map_cons, List.map_nil, byte_div _ _ (by omega) (by omega)]

theorem low_fin : ∀ (a : Fin 15) (b : Fin 14), bits .or .u8 (((a.val : Nat) : Int) * 16) ((b.val : Nat) : Int) = ((a.val * 16 + b.val : Nat) : Int) := by decide +kernel

theorem low_bits {a b : Nat} (ha : a ≤ 14) (hb : b ≤ 13) : bits .or .u8 ((a : Int) * 16) (b : Int) = ((a * 16 + b : Nat) : Int) := low_fin ⟨a, by omega⟩ ⟨b, by omega⟩

theorem high_fin : ∀ b : Fin 14, bits .or .u8 240 ((b.val : Nat) : Int) = ((240 + b.val : Nat) : Int) := by decide +kernel

theorem high_bits {b : Nat} (hb : b ≤ 13) : bits .or .u8 240 (b : Int) = ((240 + b : Nat) : Int) := high_fin ⟨b, by omega⟩

set_option maxRecDepth 100000 in
set_option maxHeartbeats 2000000 in
theorem fnCompactLists_walk (proto : Int) (plain rb sb : Bool) (ms ct fr : Int) (t n : Int) (A : Option Addr) (la ca : Nat) (zs : List Int) (w : World) (hf : (Lit.int .i64 proto).wf = true ∧ (Lit.int .i32 ms).wf = true ∧ (Lit.int .i32 ct).wf = true ∧ (Lit.int .i32 fr).wf = true)
    (htw : (Lit.int .i64 t).wf = true) (hn : (Lit.int .u16 n).wf = true) (hr : IsRow .u8 w A la ca zs) (hE : EofAt w) :
    Calls Tryz.prog 8 #[confV proto plain rb sb ms ct fr, .int .i64 t, .int .u16 n, .slice A la ca] w fun e w' => e = .returned (.bool true) ∧ Below w.heap.size w w' := by
  have hf32 : (cfgOf plain rb sb ms ct fr).fit := by
    have e1 : IntKind.i32.min = -2147483648 := by decide
    have e2 : IntKind.i32.max = 2147483647 := by decide
    have h1 : IntKind.i32.min ≤ ms ∧ ms ≤ IntKind.i32.max := by simpa [Lit.wf] using hf.2.1
    have h2 : IntKind.i32.min ≤ ct ∧ ct ≤ IntKind.i32.max := by simpa [Lit.wf] using hf.2.2.1
    refine ⟨⟨?_, ?_⟩, ⟨?_, ?_⟩⟩ <;> simp only [cfgOf] <;> omega
  have hn0 : 0 ≤ n ∧ n < 65536 := by
    have e1 : IntKind.u16.min = 0 := by decide
    have e2 : IntKind.u16.max = 65535 := by decide
    have h1 : IntKind.u16.min ≤ n ∧ n ≤ IntKind.u16.max := by simpa [Lit.wf] using hn
    omega
  have hcapA : la ≤ ca := hr.cap
  obtain ⟨sv, rfl, hA, h8⟩ := row_bytes hr
  obtain ⟨N, hN⟩ : ∃ N : Nat, n = N := ⟨n.toNat, by omega⟩
  subst hN
  clear hr hf hn htw
  have hk := Lib.hid known_any
  have HBY := Lib.hid (fun (W : World) => by_any 1 proto plain rb sb ms ct fr W)
  obtain ⟨bt, hbt⟩ := isType_f t
  obtain ⟨bw, hbw⟩ := isWide_f proto plain rb sb ms ct fr
  have HTT := Lib.hid (fun W => isType_any' hbt W)
  have HWD := Lib.hid (fun W => isWide_any' hbw W)
  have HBT := Lib.hid hbt
  have HBW := Lib.hid hbw
  clear hbt hbw
  by_cases hl1 : sv.length ≤ 2147483647
  case neg =>
    have hl1' : ¬ ((sv.length : Int) ≤ 2147483647) := by omega
    go_enter Tryz.func8, Tryz.ntmps8
    go_wp2_with (fail)
    go_ret
    exact ⟨rfl, (Below.refl _ w).alloc (Nat.le_refl _) _⟩
  have hl1' : (sv.length : Int) ≤ 2147483647 := by omega
  obtain ⟨W0, hW0⟩ : ∃ W0, W0 = w.alloc (.cells #[.int .i64 proto, .bool plain, .bool rb, .bool sb, .int .i32 ms, .int .i32 ct, .int .i32 fr] 25) := ⟨_, rfl⟩
  have hB0 : Below w.heap.size w W0 := by rw [hW0]; exact (Below.refl _ w).alloc (Nat.le_refl _) _
  have hb0 : W0.heap[w.heap.size]? = some (.cells #[.int .i64 proto, .bool plain, .bool rb, .bool sb, .int .i32 ms, .int .i32 ct, .int .i32 fr] 25 (0, 0)) := by rw [hW0]; exact heap_alloc_new w _
  have HB0 := Lib.hid hB0
  have HC := Lib.hid (Below.refl W0.heap.size W0)
  have hs0 : w.heap.size ≤ W0.heap.size := hB0.size
  have HPS := Lib.hid (fun W (hB : Below W0.heap.size W0 W) => (Box7.at_ hb0).of hB (lt_heap hb0))
  obtain ⟨p0, p1, p2, p3, p4, p5, p6⟩ := Box7.at_ hb0
  have HB0K := Lib.hid hb0
  clear hb0 hB0
  by_cases hm1 : sv.length ≤ 65536
  case neg =>
    have hm1' : ¬ ((sv.length : Int) ≤ 65536) := by omega
    go_enter Tryz.func8, Tryz.ntmps8
    go_wp2_with (fail)
    rw [← hW0]
    go_wp2_with (first | (go_at_call 26; (with_reducible refine (HTT.out _).mono ?_); rintro e W3 ⟨rfl, hB3⟩; have HC := Lib.hid (HC.out.trans (hB3.mono HC.out.size)); clear hB3; obtain ⟨p0, p1, p2, p3, p4, p5, p6⟩ := HPS.out _ HC.out) | (go_at_call 23; (with_reducible refine (HWD.out _).mono ?_); rintro e W3 ⟨rfl, hB3⟩; have HC := Lib.hid (HC.out.trans (hB3.mono HC.out.size)); clear hB3; obtain ⟨p0, p1, p2, p3, p4, p5, p6⟩ := HPS.out _ HC.out) | (go_at_call 12; refine (hk.out _).mono ?_; rintro e w' ⟨rfl, hb⟩))
    go_ret
    exact ⟨rfl, HB0.out.trans ((HC.out.trans (hb.mono HC.out.size)).mono hs0)⟩
  have hm1' : (sv.length : Int) ≤ 65536 := by omega
  by_cases hN4 : N ≤ 4096
  case neg =>
    have hN4' : ¬ ((N : Int) ≤ 4096) := by omega
    go_enter Tryz.func8, Tryz.ntmps8
    go_wp2_with (fail)
    rw [← hW0]
    go_wp2_with (first | (go_at_call 26; (with_reducible refine (HTT.out _).mono ?_); rintro e W3 ⟨rfl, hB3⟩; have HC := Lib.hid (HC.out.trans (hB3.mono HC.out.size)); clear hB3; obtain ⟨p0, p1, p2, p3, p4, p5, p6⟩ := HPS.out _ HC.out) | (go_at_call 23; (with_reducible refine (HWD.out _).mono ?_); rintro e W3 ⟨rfl, hB3⟩; have HC := Lib.hid (HC.out.trans (hB3.mono HC.out.size)); clear hB3; obtain ⟨p0, p1, p2, p3, p4, p5, p6⟩ := HPS.out _ HC.out) | (go_at_call 12; refine (hk.out _).mono ?_; rintro e w' ⟨rfl, hb⟩))
    go_ret
    exact ⟨rfl, HB0.out.trans ((HC.out.trans (hb.mono HC.out.size)).mono hs0)⟩
  have hN4' : (N : Int) ≤ 4096 := by omega
  by_cases hbt : bt = false
  case pos =>
    subst hbt
    go_enter Tryz.func8, Tryz.ntmps8
    go_wp2_with (fail)
    rw [← hW0]
    go_wp2_with (first | (go_at_call 26; (with_reducible refine (HTT.out _).mono ?_); rintro e W3 ⟨rfl, hB3⟩; have HC := Lib.hid (HC.out.trans (hB3.mono HC.out.size)); clear hB3; obtain ⟨p0, p1, p2, p3, p4, p5, p6⟩ := HPS.out _ HC.out) | (go_at_call 23; (with_reducible refine (HWD.out _).mono ?_); rintro e W3 ⟨rfl, hB3⟩; have HC := Lib.hid (HC.out.trans (hB3.mono HC.out.size)); clear hB3; obtain ⟨p0, p1, p2, p3, p4, p5, p6⟩ := HPS.out _ HC.out) | (go_at_call 12; refine (hk.out _).mono ?_; rintro e w' ⟨rfl, hb⟩))
    go_ret
    exact ⟨rfl, HB0.out.trans ((HC.out.trans (hb.mono HC.out.size)).mono hs0)⟩
  obtain rfl : bt = true := by simpa using hbt
  by_cases hbw : bw = false
  case pos =>
    subst hbw
    go_enter Tryz.func8, Tryz.ntmps8
    go_wp2_with (fail)
    rw [← hW0]
    go_wp2_with (first | (go_at_call 26; (with_reducible refine (HTT.out _).mono ?_); rintro e W3 ⟨rfl, hB3⟩; have HC := Lib.hid (HC.out.trans (hB3.mono HC.out.size)); clear hB3; obtain ⟨p0, p1, p2, p3, p4, p5, p6⟩ := HPS.out _ HC.out) | (go_at_call 23; (with_reducible refine (HWD.out _).mono ?_); rintro e W3 ⟨rfl, hB3⟩; have HC := Lib.hid (HC.out.trans (hB3.mono HC.out.size)); clear hB3; obtain ⟨p0, p1, p2, p3, p4, p5, p6⟩ := HPS.out _ HC.out) | (go_at_call 12; refine (hk.out _).mono ?_; rintro e w' ⟨rfl, hb⟩))
    go_ret
    exact ⟨rfl, HB0.out.trans ((HC.out.trans (hb.mono HC.out.size)).mono hs0)⟩
  obtain rfl : bw = true := by simpa using hbw
  clear hbt hbw
  go_enter Tryz.func8, Tryz.ntmps8
  go_wp2_with (fail)
  rw [← hW0]
  go_wp2_with (first | (go_at_call 26; (with_reducible refine (HTT.out _).mono ?_); rintro e W3 ⟨rfl, hB3⟩; have HC := Lib.hid (HC.out.trans (hB3.mono HC.out.size)); clear hB3; obtain ⟨p0, p1, p2, p3, p4, p5, p6⟩ := HPS.out _ HC.out) | (go_at_call 23; (with_reducible refine (HWD.out _).mono ?_); rintro e W3 ⟨rfl, hB3⟩; have HC := Lib.hid (HC.out.trans (hB3.mono HC.out.size)); clear hB3; obtain ⟨p0, p1, p2, p3, p4, p5, p6⟩ := HPS.out _ HC.out))
  refine (HBY.out _).mono ?_
  rintro e W1 ⟨rfl, hB1⟩
  have HBB := Lib.hid (HC.out.trans (hB1.mono HC.out.size))
  clear hB1
  have hbk : W1.heap[w.heap.size]? = some (.cells #[.int .i64 proto, .bool plain, .bool rb, .bool sb, .int .i32 ms, .int .i32 ct, .int .i32 fr] 25 (0, 0)) := (HBB.out.block _ (lt_heap HB0K.out)).trans HB0K.out
  have HW1 := Lib.hid (HB0.out.trans (HBB.out.mono hs0))
  have hz := frozen_heap hbk
  obtain ⟨p0, p1, p2, p3, p4, p5, p6⟩ := Box7.at_ hbk
  have HCT := Lib.hid (fun W => compactType_any' HBT.out W)
  by_cases hNz : N ≤ 14
  all_goals (
    go_wp2_with (fail)
    obtain ⟨W2, hW2⟩ : ∃ W2, W2 = ((((((W1.setCell ⟨w.heap.size, 0, none⟩ (.int .i64 1)).setCell ⟨w.heap.size, 1, none⟩ (.bool plain)).setCell ⟨w.heap.size, 2, none⟩ (.bool rb)).setCell ⟨w.heap.size, 3, none⟩ (.bool sb)).setCell ⟨w.heap.size, 4, none⟩ (.int .i32 ms)).setCell ⟨w.heap.size, 5, none⟩ (.int .i32 ct)).setCell ⟨w.heap.size, 6, none⟩ (.int .i32 fr) := ⟨_, rfl⟩
    have hB2 : Below w.heap.size w W2 := by rw [hW2]; exact ((((((HW1.out.setCell (Nat.le_refl _) _).setCell (Nat.le_refl _) _).setCell (Nat.le_refl _) _).setCell (Nat.le_refl _) _).setCell (Nat.le_refl _) _).setCell (Nat.le_refl _) _).setCell (Nat.le_refl _) _
    have hb2 : W2.heap[w.heap.size]? = some (.cells #[.int .i64 1, .bool plain, .bool rb, .bool sb, .int .i32 ms, .int .i32 ct, .int .i32 fr] 25 (0, 0)) := by
      rw [hW2]
      exact (heap_set_same (o := 6) (heap_set_same (o := 5) (heap_set_same (o := 4) (heap_set_same (o := 3) (heap_set_same (o := 2) (heap_set_same (o := 1) (heap_set_same (o := 0) hbk _) _) _) _) _) _) _).trans rfl
    have HC := Lib.hid (Below.refl (w.heap.size + 1) W2)
    have HB2 := Lib.hid hB2
    have hs2 : w.heap.size + 1 ≤ W2.heap.size := lt_heap hb2
    have HPS := Lib.hid (fun W (hB : Below (w.heap.size + 1) W2 W) => (Box7.at_ hb2).of hB (by omega))
    have HS21 := Lib.hid (show W1.heap.size = W2.heap.size by rw [hW2]; simp)
    rw [← hW2]
    clear hW2 hB2 hz hbk HBB p0 p1 p2 p3 p4 p5 p6
    obtain ⟨p0, p1, p2, p3, p4, p5, p6⟩ := Box7.at_ hb2
    clear hb2
    refine (HCT.out _).mono ?_
    rintro e W4 ⟨rfl, hB4⟩
    have HC := Lib.hid (HC.out.trans (hB4.mono (Nat.le_trans hs2 HC.out.size)))
    clear hB4
    have HPA := Lib.hid (fun y : Int => HPS.out _ (HC.out.alloc (Nat.le_trans hs2 HC.out.size) (.cells #[.int .u8 y] 5)))
    have a0 := fun y : Int => (HPA.out y).1
    have a1 := fun y : Int => (HPA.out y).2.1
    have a2 := fun y : Int => (HPA.out y).2.2.1
    have a3 := fun y : Int => (HPA.out y).2.2.2.1
    have a4 := fun y : Int => (HPA.out y).2.2.2.2.1
    have a5 := fun y : Int => (HPA.out y).2.2.2.2.2.1
    have a6 := fun y : Int => (HPA.out y).2.2.2.2.2.2
    go_wp2_with (fail))
  · have hct := (cType_cCode HBT.out).2.2.2.1
    have hy : bits .or .u8 ((N : Int) * 16) (cCode t : Int) = ((((N * 16 + cCode t).toUInt8).toNat : Nat) : Int) := by
      rw [low_bits (by omega) hct, byte_div _ _ (by omega) (by omega)]
    rw [hy]
    have hL := lists_any plain rb sb ms ct fr hf32 t (cType_cCode HBT.out).2.2.2.2.1 N (by omega) (some ⟨W4.heap.size, 0, none⟩) 1 [(N * 16 + cCode t).toUInt8] A ca sv (W4.alloc (.cells #[.int .u8 ((((N * 16 + cCode t).toUInt8).toNat : Nat) : Int)] 5)) (hE.below (HB2.out.trans ((HC.out.alloc (Nat.le_trans hs2 HC.out.size) _).mono (Nat.le_succ _))) hE.lt) (C_one1 ((cell_heap (heap_alloc_new W4 _) 0).trans rfl)) (Nat.le_refl _) (Nat.le_refl _) (Kd.C_below hA (HB2.out.trans ((HC.out.alloc (Nat.le_trans hs2 HC.out.size) _).mono (Nat.le_succ _)))) hcapA h8 (by omega)
      (wr_lst_small t N hNz).1 (wr_lst_small t N hNz).2 (fun R hR => (rdC_lst _ _ R).trans (rdLst_small _ (wide_of HBW.out).2 (wide_of HBW.out).1 HBT.out N hNz R hR)) (fun R hR => (rdC_set _ _ R).trans (rdLst_small _ (wide_of HBW.out).2 (wide_of HBW.out).1 HBT.out N hNz R hR))
    refine hL.mono ?_
    rintro e W5 ⟨rfl, hB5⟩
    have HR := Lib.hid ((HC.out.alloc (Nat.le_trans hs2 HC.out.size) (.cells #[.int .u8 ((((N * 16 + cCode t).toUInt8).toNat : Nat) : Int)] 5)).trans (hB5.mono (by have := HC.out.size; simp <;> omega)))
    clear hB5 hL hy hct
    go_wp2_with (go_at_call 12; refine (hk.out _).mono ?_; rintro e w' ⟨rfl, hb⟩)
    go_ret
    exact ⟨rfl, HB2.out.trans ((HR.out.trans (hb.mono (Nat.le_trans hs2 HR.out.size))).mono (Nat.le_succ _))⟩
  · have HSV := Lib.hid (fun W => seven_any N (by omega) W)
    have HC4 := Lib.hid (HC.out.alloc (Nat.le_trans hs2 HC.out.size) (.cells #[.int .u8 (bits .or .u8 ((N : Int) % 256 * 16 % 256) (cCode t : Int))] 5))
    refine (HCT.out _).mono ?_
    rintro e W5 ⟨rfl, hB5⟩
    have HC := Lib.hid (HC4.out.trans (hB5.mono (Nat.le_trans hs2 HC4.out.size)))
    clear hB5
    go_wp2_with (fail)
    have hct := (cType_cCode HBT.out).2.2.2.1
    have hy : bits .or .u8 240 (cCode t : Int) = ((((240 + cCode t).toUInt8).toNat : Nat) : Int) := by
      rw [high_bits hct, two40, byte_div _ _ (by omega) (by omega)]
    rw [hy]
    obtain ⟨x, hx⟩ : ∃ x : UInt8, (240 + cCode t).toUInt8 = x := ⟨_, rfl⟩
    rw [hx]
    obtain ⟨W6, hW6⟩ : ∃ W6, W6 = W5.alloc (.cells #[.int .u8 ((x.toNat : Nat) : Int)] 5) := ⟨_, rfl⟩
    have hb6 : W6.heap[W5.heap.size]? = some (.cells #[.int .u8 ((x.toNat : Nat) : Int)] 5 (0, 0)) := by rw [hW6]; exact heap_alloc_new W5 _
    have hB6 : Below (w.heap.size + 1) W2 W6 := by rw [hW6]; exact HC.out.alloc (Nat.le_trans hs2 HC.out.size) _
    have HC6 := Lib.hid hB6
    rw [← hW6]
    clear hW6 hB6 hy
    refine (HSV.out _).mono ?_
    rintro e W7 ⟨v7, rfl, hR7, hB7⟩
    obtain ⟨D7, cd7, rfl, hcd7, hCd7⟩ := Kd.R_reads hR7
    have HC7 := Lib.hid (HC6.out.trans (hB7.mono (Nat.le_trans hs2 HC6.out.size)))
    have hb7 : W7.heap[W5.heap.size]? = some (.cells #[.int .u8 ((x.toNat : Nat) : Int)] 5 (0, 0)) := (hB7.block _ (lt_heap hb6)).trans hb6
    have HCD7 := Lib.hid hCd7
    have HCAP7 := Lib.hid hcd7
    have HB7 := Lib.hid hb7
    clear hR7 hB7 hCd7 hcd7 hb6 hb7
    go_wp2_with (fail)
    have hQ7 : Below (w.heap.size + 1) W2 (W7.alloc (.cells #[.slice (some ⟨W5.heap.size, 0, none⟩) 1 1, .slice D7 (ints (Lib.uvarint N)).length cd7] 26)) := HC7.out.alloc (Nat.le_trans hs2 HC7.out.size) _
    have HQ7 := Lib.hid hQ7
    have HJ := Lib.hid (joined_any (W := W7.alloc (.cells #[.slice (some ⟨W5.heap.size, 0, none⟩) 1 1, .slice D7 (ints (Lib.uvarint N)).length cd7] 26)) W7.heap.size 2 [ints [x], ints (Lib.uvarint N)] (by simp) (by simp) (by simp) (by have := Lib.uvarint_length64 (x := N) (by omega); simp [ints_length]; omega) (fun j p hj => by
      match j, hj with
      | 0, hj => simp only [List.getElem?_cons_zero, Option.some.injEq] at hj; subst hj; exact ⟨some ⟨W5.heap.size, 0, none⟩, 1, (cell_heap (heap_alloc_new W7 _) 0).trans rfl, Nat.le_refl _, C_one1 ((cell_heap (heap_alloc_old HB7.out _) 0).trans rfl)⟩
      | 1, hj => simp only [List.getElem?_cons_succ, List.getElem?_cons_zero, Option.some.injEq] at hj; subst hj; exact ⟨D7, cd7, (cell_heap (heap_alloc_new W7 _) 1).trans rfl, HCAP7.out, Kd.C_below HCD7.out ((Below.refl _ W7).alloc (Nat.le_refl _) _)⟩
      | j + 2, hj => simp at hj))
    refine HJ.out.mono ?_
    rintro e W8 ⟨v8, rfl, hR8, hB8⟩
    obtain ⟨D, cd, rfl, hcd, hCd⟩ := Kd.R_reads hR8
    have hfl : [ints [x], ints (Lib.uvarint N)].flatten = ints (x :: Lib.uvarint N) := by simp [ints]
    rw [hfl] at hcd hCd ⊢
    have HC8 := Lib.hid (HQ7.out.trans (hB8.mono (Nat.le_trans hs2 HQ7.out.size)))
    obtain ⟨X, hX⟩ : ∃ X, x :: Lib.uvarint N = X := ⟨_, rfl⟩
    rw [hX] at hcd hCd ⊢
    have hX1 : 1 ≤ X.length := by rw [← hX]; simp
    have hw1 := wr_lst_big t N (by omega) (by omega)
    rw [hx, hX] at hw1
    have hrB : ∀ R : List UInt8, 16 * (N : Int) ≤ R.length → cRdLst (cfgOf plain rb sb ms ct fr) CR0 x (Lib.uvarint N ++ R) = some ({ t := t, size := N }, 0, (CR0, R)) := fun R hR => by
      have h := rdLst_big (cfgOf plain rb sb ms ct fr) (wide_of HBW.out).2 (wide_of HBW.out).1 HBT.out (N : Int) (by omega) (by omega) R hR
      rw [hx, Int.toNat_natCast] at h
      exact h
    have hr1 : ∀ R : List UInt8, 16 * (N : Int) ≤ R.length → rdC 1 (cfgOf plain rb sb ms ct fr) (CR0, X ++ R) .lstB = some ({ t := t, size := N }, 0, (CR0, R)) := fun R hR => by
      rw [← hX, List.cons_append, rdC_lst]
      exact hrB R hR
    have hr2 : ∀ R : List UInt8, 16 * (N : Int) ≤ R.length → rdC 1 (cfgOf plain rb sb ms ct fr) (CR0, X ++ R) .setB = some ({ t := t, size := N }, 0, (CR0, R)) := fun R hR => by
      rw [← hX, List.cons_append, rdC_set]
      exact hrB R hR
    have HL := Lib.hid (lists_any plain rb sb ms ct fr hf32 t (cType_cCode HBT.out).2.2.2.2.1 N (by omega) D cd X A ca sv W8 (hE.below (HB2.out.trans (HC8.out.mono (Nat.le_succ _))) hE.lt) hCd hcd hX1 (Kd.C_below hA (HB2.out.trans (HC8.out.mono (Nat.le_succ _)))) hcapA h8 (by omega) hw1.1 hw1.2 hr1 hr2)
    clear hR8 hB8 hfl hQ7 hcd hCd hX hX1 hw1 hr1 hr2 hrB hx hct HJ
    obtain ⟨p0, p1, p2, p3, p4, p5, p6⟩ := HPS.out _ HC8.out
    go_wp2_with (fail)
    refine HL.out.mono ?_
    rintro e W9 ⟨rfl, hB9⟩
    have HR := Lib.hid (HC8.out.trans (hB9.mono (Nat.le_trans hs2 HC8.out.size)))
    clear hB9 HL
    go_wp2_with (go_at_call 12; refine (hk.out _).mono ?_; rintro e w' ⟨rfl, hb⟩)
    go_ret
    exact ⟨rfl, HB2.out.trans ((HR.out.trans (hb.mono (Nat.le_trans hs2 HR.out.size))).mono (Nat.le_succ _))⟩

end Go.Proofs.YthmkkbihfdcbiaaGreatDoor

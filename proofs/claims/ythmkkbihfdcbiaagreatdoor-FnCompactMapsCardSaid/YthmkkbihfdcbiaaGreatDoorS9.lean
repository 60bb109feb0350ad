/- The walk of FnCompactMaps. -/
import Derived.Test.YthmkkbihfdcbiaaGreatDoorMx
import Derived.Test.YthmkkbihfdcbiaaGreatDoorMr
import Derived.Test.YthmkkbihfdcbiaaGreatDoorMb2
namespace Go.Proofs.YthmkkbihfdcbiaaGreatDoor
open Go.RowKit Go.Deep
set_option linter.unusedVariables false
set_option linter.unusedSimpArgs false
open Go.Proofs.YthmkkbihfdcbiaaGreatDoorW.PrintWords

theorem isType_any {t : Int} {b : Bool} (h : laws_isType.f t = some b) (w : World) : Calls Tryz.prog 26 #[.int .i64 t] w fun e w' => e = .returned (.bool b) ∧ Below w.heap.size w w' :=
  (laws_isType.calls t b w h).mono fun _ _ h => ⟨h.1, h.2.below⟩

theorem compactType_any {t : Int} (h : laws_isType.f t = some true) (w : World) : Calls Tryz.prog 27 #[.int .i64 t] w fun e w' => e = .returned (.int .u8 (cCode t : Int)) ∧ Below w.heap.size w w' :=
  (laws_compactType.calls t _ w (cType_cCode h).1).mono fun _ _ h => ⟨h.1, h.2.below⟩

theorem isWide_any {proto : Int} {plain rb sb : Bool} {ms ct fr : Int} {b : Bool} (h : laws_isWide.f proto plain rb sb ms ct fr = some b) (w : World) : Calls Tryz.prog 23 #[.agg #[.int .i64 proto, .bool plain, .bool rb, .bool sb, .int .i32 ms, .int .i32 ct, .int .i32 fr]] w fun e w' => e = .returned (.bool b) ∧ Below w.heap.size w w' :=
  laws_isWide.calls proto plain rb sb ms ct fr b w h

theorem two_bits : ∀ a b : Fin 14, bits .or .u8 (((a.val : Nat) : Int) * 16 % 256) ((b.val : Nat) : Int) = ((a.val * 16 + b.val : Nat) : Int) := by decide +kernel

theorem two_byte {a b : Nat} (ha : a ≤ 13) (hb : b ≤ 13) : [bits .or .u8 ((a : Int) * 16 % 256) (b : Int)] = ints [(a * 16 + b).toUInt8] := by
  have h := two_bits ⟨a, by omega⟩ ⟨b, by omega⟩
  simp only at h
  rw [h, ints, List.map_cons, List.map_nil, byte_div _ _ (by omega) (by omega)]

set_option maxRecDepth 100000 in
set_option maxHeartbeats 2000000 in
theorem fnCompactMaps_walk (proto : Int) (plain rb sb : Bool) (ms ct fr : Int) (k t n : Int) (A : Option Addr) (la ca : Nat) (zs : List Int) (w : World) (hf : (Lit.int .i64 proto).wf = true ∧ (Lit.int .i32 ms).wf = true ∧ (Lit.int .i32 ct).wf = true ∧ (Lit.int .i32 fr).wf = true)
    (hkw : (Lit.int .i64 k).wf = true) (htw : (Lit.int .i64 t).wf = true) (hn : (Lit.int .u16 n).wf = true) (hr : IsRow .u8 w A la ca zs) (hE : EofAt w) :
    Calls Tryz.prog 9 #[confV proto plain rb sb ms ct fr, .int .i64 k, .int .i64 t, .int .u16 n, .slice A la ca] w fun e w' => e = .returned (.bool true) ∧ Below w.heap.size w w' := by
  have hf32 : (cfgOf plain rb sb ms ct fr).fit := by
    have e1 : IntKind.i32.min = -2147483648 := by decide
    have e2 : IntKind.i32.max = 2147483647 := by decide
    have h1 : IntKind.i32.min ≤ ms ∧ ms ≤ IntKind.i32.max := by simpa [Lit.wf] using hf.2.1
    have h2 : IntKind.i32.min ≤ ct ∧ ct ≤ IntKind.i32.max := by simpa [Lit.wf] using hf.2.2.1
    refine ⟨⟨?_, ?_⟩, ⟨?_, ?_⟩⟩ <;> simp only [cfgOf] <;> omega
  have hn0 : 0 ≤ n ∧ n < 65536 := by
    have e1 : IntKind.u16.min = 0 := by decide
    have e2 : IntKind.u16.max = 65535 := by decide
    have h1 : IntKind.u16.min ≤ n ∧ n ≤ IntKind.u16.max := by simpa [Lit.wf] using hn
    omega
  have hcapA : la ≤ ca := hr.cap
  obtain ⟨sv, rfl, hA, h8⟩ := row_bytes hr
  obtain ⟨N, hN⟩ : ∃ N : Nat, n = N := ⟨n.toNat, by omega⟩
  subst hN
  clear hr hf hn hkw htw
  have hk := Lib.hid known_any
  have HBY := Lib.hid (fun (W : World) => by_any 1 proto plain rb sb ms ct fr W)
  obtain ⟨bk, hbk⟩ := isType_f k
  obtain ⟨bt, hbt⟩ := isType_f t
  obtain ⟨bw, hbw⟩ := isWide_f proto plain rb sb ms ct fr
  have HTK := Lib.hid (fun W => isType_any hbk W)
  have HTT := Lib.hid (fun W => isType_any hbt W)
  have HWD := Lib.hid (fun W => isWide_any hbw W)
  have HBK := Lib.hid hbk
  have HBT := Lib.hid hbt
  have HBW := Lib.hid hbw
  clear hbk hbt hbw
  by_cases hl1 : sv.length ≤ 2147483647
  case neg =>
    have hl1' : ¬ ((sv.length : Int) ≤ 2147483647) := by omega
    go_enter Tryz.func9, Tryz.ntmps9
    go_wp2_with (fail)
    go_ret
    exact ⟨rfl, (Below.refl _ w).alloc (Nat.le_refl _) _⟩
  have hl1' : (sv.length : Int) ≤ 2147483647 := by omega
  obtain ⟨W0, hW0⟩ : ∃ W0, W0 = w.alloc (.cells #[.int .i64 proto, .bool plain, .bool rb, .bool sb, .int .i32 ms, .int .i32 ct, .int .i32 fr] 25) := ⟨_, rfl⟩
  have hB0 : Below w.heap.size w W0 := by rw [hW0]; exact (Below.refl _ w).alloc (Nat.le_refl _) _
  have hb0 : W0.heap[w.heap.size]? = some (.cells #[.int .i64 proto, .bool plain, .bool rb, .bool sb, .int .i32 ms, .int .i32 ct, .int .i32 fr] 25 (0, 0)) := by rw [hW0]; exact heap_alloc_new w _
  have HB0 := Lib.hid hB0
  have HC := Lib.hid (Below.refl W0.heap.size W0)
  have hs0 : w.heap.size ≤ W0.heap.size := hB0.size
  have HPS := Lib.hid (fun W (hB : Below W0.heap.size W0 W) => (Box7.at_ hb0).of hB (lt_heap hb0))
  obtain ⟨p0, p1, p2, p3, p4, p5, p6⟩ := Box7.at_ hb0
  have HB0K := Lib.hid hb0
  clear hb0 hB0
  by_cases hm1 : sv.length ≤ 65536
  case neg =>
    have hm1' : ¬ ((sv.length : Int) ≤ 65536) := by omega
    go_enter Tryz.func9, Tryz.ntmps9
    go_wp2_with (fail)
    rw [← hW0]
    go_wp2_with (first | (go_at_call 26; (with_reducible refine (HTK.out _).mono ?_); rintro e W3 ⟨rfl, hB3⟩; have HC := Lib.hid (HC.out.trans (hB3.mono HC.out.size)); clear hB3; obtain ⟨p0, p1, p2, p3, p4, p5, p6⟩ := HPS.out _ HC.out) | (go_at_call 26; (with_reducible refine (HTT.out _).mono ?_); rintro e W3 ⟨rfl, hB3⟩; have HC := Lib.hid (HC.out.trans (hB3.mono HC.out.size)); clear hB3; obtain ⟨p0, p1, p2, p3, p4, p5, p6⟩ := HPS.out _ HC.out) | (go_at_call 23; (with_reducible refine (HWD.out _).mono ?_); rintro e W3 ⟨rfl, hB3⟩; have HC := Lib.hid (HC.out.trans (hB3.mono HC.out.size)); clear hB3; obtain ⟨p0, p1, p2, p3, p4, p5, p6⟩ := HPS.out _ HC.out) | (go_at_call 12; refine (hk.out _).mono ?_; rintro e w' ⟨rfl, hb⟩))
    go_ret
    exact ⟨rfl, HB0.out.trans ((HC.out.trans (hb.mono HC.out.size)).mono hs0)⟩
  have hm1' : (sv.length : Int) ≤ 65536 := by omega
  by_cases hN4 : N ≤ 4096
  case neg =>
    have hN4' : ¬ ((N : Int) ≤ 4096) := by omega
    go_enter Tryz.func9, Tryz.ntmps9
    go_wp2_with (fail)
    rw [← hW0]
    go_wp2_with (first | (go_at_call 26; (with_reducible refine (HTK.out _).mono ?_); rintro e W3 ⟨rfl, hB3⟩; have HC := Lib.hid (HC.out.trans (hB3.mono HC.out.size)); clear hB3; obtain ⟨p0, p1, p2, p3, p4, p5, p6⟩ := HPS.out _ HC.out) | (go_at_call 26; (with_reducible refine (HTT.out _).mono ?_); rintro e W3 ⟨rfl, hB3⟩; have HC := Lib.hid (HC.out.trans (hB3.mono HC.out.size)); clear hB3; obtain ⟨p0, p1, p2, p3, p4, p5, p6⟩ := HPS.out _ HC.out) | (go_at_call 23; (with_reducible refine (HWD.out _).mono ?_); rintro e W3 ⟨rfl, hB3⟩; have HC := Lib.hid (HC.out.trans (hB3.mono HC.out.size)); clear hB3; obtain ⟨p0, p1, p2, p3, p4, p5, p6⟩ := HPS.out _ HC.out) | (go_at_call 12; refine (hk.out _).mono ?_; rintro e w' ⟨rfl, hb⟩))
    go_ret
    exact ⟨rfl, HB0.out.trans ((HC.out.trans (hb.mono HC.out.size)).mono hs0)⟩
  have hN4' : (N : Int) ≤ 4096 := by omega
  by_cases hbk : bk = false
  case pos =>
    subst hbk
    go_enter Tryz.func9, Tryz.ntmps9
    go_wp2_with (fail)
    rw [← hW0]
    go_wp2_with (first | (go_at_call 26; (with_reducible refine (HTK.out _).mono ?_); rintro e W3 ⟨rfl, hB3⟩; have HC := Lib.hid (HC.out.trans (hB3.mono HC.out.size)); clear hB3; obtain ⟨p0, p1, p2, p3, p4, p5, p6⟩ := HPS.out _ HC.out) | (go_at_call 26; (with_reducible refine (HTT.out _).mono ?_); rintro e W3 ⟨rfl, hB3⟩; have HC := Lib.hid (HC.out.trans (hB3.mono HC.out.size)); clear hB3; obtain ⟨p0, p1, p2, p3, p4, p5, p6⟩ := HPS.out _ HC.out) | (go_at_call 23; (with_reducible refine (HWD.out _).mono ?_); rintro e W3 ⟨rfl, hB3⟩; have HC := Lib.hid (HC.out.trans (hB3.mono HC.out.size)); clear hB3; obtain ⟨p0, p1, p2, p3, p4, p5, p6⟩ := HPS.out _ HC.out) | (go_at_call 12; refine (hk.out _).mono ?_; rintro e w' ⟨rfl, hb⟩))
    go_ret
    exact ⟨rfl, HB0.out.trans ((HC.out.trans (hb.mono HC.out.size)).mono hs0)⟩
  obtain rfl : bk = true := by simpa using hbk
  by_cases hbt : bt = false
  case pos =>
    subst hbt
    go_enter Tryz.func9, Tryz.ntmps9
    go_wp2_with (fail)
    rw [← hW0]
    go_wp2_with (first | (go_at_call 26; (with_reducible refine (HTK.out _).mono ?_); rintro e W3 ⟨rfl, hB3⟩; have HC := Lib.hid (HC.out.trans (hB3.mono HC.out.size)); clear hB3; obtain ⟨p0, p1, p2, p3, p4, p5, p6⟩ := HPS.out _ HC.out) | (go_at_call 26; (with_reducible refine (HTT.out _).mono ?_); rintro e W3 ⟨rfl, hB3⟩; have HC := Lib.hid (HC.out.trans (hB3.mono HC.out.size)); clear hB3; obtain ⟨p0, p1, p2, p3, p4, p5, p6⟩ := HPS.out _ HC.out) | (go_at_call 23; (with_reducible refine (HWD.out _).mono ?_); rintro e W3 ⟨rfl, hB3⟩; have HC := Lib.hid (HC.out.trans (hB3.mono HC.out.size)); clear hB3; obtain ⟨p0, p1, p2, p3, p4, p5, p6⟩ := HPS.out _ HC.out) | (go_at_call 12; refine (hk.out _).mono ?_; rintro e w' ⟨rfl, hb⟩))
    go_ret
    exact ⟨rfl, HB0.out.trans ((HC.out.trans (hb.mono HC.out.size)).mono hs0)⟩
  obtain rfl : bt = true := by simpa using hbt
  by_cases hbw : bw = false
  case pos =>
    subst hbw
    go_enter Tryz.func9, Tryz.ntmps9
    go_wp2_with (fail)
    rw [← hW0]
    go_wp2_with (first | (go_at_call 26; (with_reducible refine (HTK.out _).mono ?_); rintro e W3 ⟨rfl, hB3⟩; have HC := Lib.hid (HC.out.trans (hB3.mono HC.out.size)); clear hB3; obtain ⟨p0, p1, p2, p3, p4, p5, p6⟩ := HPS.out _ HC.out) | (go_at_call 26; (with_reducible refine (HTT.out _).mono ?_); rintro e W3 ⟨rfl, hB3⟩; have HC := Lib.hid (HC.out.trans (hB3.mono HC.out.size)); clear hB3; obtain ⟨p0, p1, p2, p3, p4, p5, p6⟩ := HPS.out _ HC.out) | (go_at_call 23; (with_reducible refine (HWD.out _).mono ?_); rintro e W3 ⟨rfl, hB3⟩; have HC := Lib.hid (HC.out.trans (hB3.mono HC.out.size)); clear hB3; obtain ⟨p0, p1, p2, p3, p4, p5, p6⟩ := HPS.out _ HC.out) | (go_at_call 12; refine (hk.out _).mono ?_; rintro e w' ⟨rfl, hb⟩))
    go_ret
    exact ⟨rfl, HB0.out.trans ((HC.out.trans (hb.mono HC.out.size)).mono hs0)⟩
  obtain rfl : bw = true := by simpa using hbw
  clear hbk hbt hbw
  go_enter Tryz.func9, Tryz.ntmps9
  go_wp2_with (fail)
  rw [← hW0]
  go_wp2_with (first | (go_at_call 26; (with_reducible refine (HTK.out _).mono ?_); rintro e W3 ⟨rfl, hB3⟩; have HC := Lib.hid (HC.out.trans (hB3.mono HC.out.size)); clear hB3; obtain ⟨p0, p1, p2, p3, p4, p5, p6⟩ := HPS.out _ HC.out) | (go_at_call 26; (with_reducible refine (HTT.out _).mono ?_); rintro e W3 ⟨rfl, hB3⟩; have HC := Lib.hid (HC.out.trans (hB3.mono HC.out.size)); clear hB3; obtain ⟨p0, p1, p2, p3, p4, p5, p6⟩ := HPS.out _ HC.out) | (go_at_call 23; (with_reducible refine (HWD.out _).mono ?_); rintro e W3 ⟨rfl, hB3⟩; have HC := Lib.hid (HC.out.trans (hB3.mono HC.out.size)); clear hB3; obtain ⟨p0, p1, p2, p3, p4, p5, p6⟩ := HPS.out _ HC.out))
  refine (HBY.out _).mono ?_
  rintro e W1 ⟨rfl, hB1⟩
  have HBB := Lib.hid (HC.out.trans (hB1.mono HC.out.size))
  clear hB1
  have hbk : W1.heap[w.heap.size]? = some (.cells #[.int .i64 proto, .bool plain, .bool rb, .bool sb, .int .i32 ms, .int .i32 ct, .int .i32 fr] 25 (0, 0)) := (HBB.out.block _ (lt_heap HB0K.out)).trans HB0K.out
  have HW1 := Lib.hid (HB0.out.trans (HBB.out.mono hs0))
  have hz := frozen_heap hbk
  obtain ⟨p0, p1, p2, p3, p4, p5, p6⟩ := Box7.at_ hbk
  by_cases hNz : N = 0
  case' pos => subst hNz
  all_goals (
    go_wp2_with (fail)
    obtain ⟨W2, hW2⟩ : ∃ W2, W2 = ((((((W1.setCell ⟨w.heap.size, 0, none⟩ (.int .i64 1)).setCell ⟨w.heap.size, 1, none⟩ (.bool plain)).setCell ⟨w.heap.size, 2, none⟩ (.bool rb)).setCell ⟨w.heap.size, 3, none⟩ (.bool sb)).setCell ⟨w.heap.size, 4, none⟩ (.int .i32 ms)).setCell ⟨w.heap.size, 5, none⟩ (.int .i32 ct)).setCell ⟨w.heap.size, 6, none⟩ (.int .i32 fr) := ⟨_, rfl⟩
    have hB2 : Below w.heap.size w W2 := by rw [hW2]; exact ((((((HW1.out.setCell (Nat.le_refl _) _).setCell (Nat.le_refl _) _).setCell (Nat.le_refl _) _).setCell (Nat.le_refl _) _).setCell (Nat.le_refl _) _).setCell (Nat.le_refl _) _).setCell (Nat.le_refl _) _
    have hb2 : W2.heap[w.heap.size]? = some (.cells #[.int .i64 1, .bool plain, .bool rb, .bool sb, .int .i32 ms, .int .i32 ct, .int .i32 fr] 25 (0, 0)) := by
      rw [hW2]
      exact (heap_set_same (o := 6) (heap_set_same (o := 5) (heap_set_same (o := 4) (heap_set_same (o := 3) (heap_set_same (o := 2) (heap_set_same (o := 1) (heap_set_same (o := 0) hbk _) _) _) _) _) _) _).trans rfl
    have HC := Lib.hid (Below.refl (w.heap.size + 1) W2)
    have HB2 := Lib.hid hB2
    have hs2 : w.heap.size + 1 ≤ W2.heap.size := lt_heap hb2
    have HPS := Lib.hid (fun W (hB : Below (w.heap.size + 1) W2 W) => (Box7.at_ hb2).of hB (by omega))
    have HS21 := Lib.hid (show W1.heap.size = W2.heap.size by rw [hW2]; simp)
    rw [← hW2]
    clear hW2 hB2 hz hbk HBB p0 p1 p2 p3 p4 p5 p6
    obtain ⟨p0, p1, p2, p3, p4, p5, p6⟩ := Box7.at_ hb2
    clear hb2)
  · have HZ : Calls Tryz.prog 20 #[.agg #[.int .i64 1, .bool plain, .bool rb, .bool sb, .int .i32 ms, .int .i32 ct, .int .i32 fr], .agg #[.int .i64 7, .int .i64 t, .int .i64 k, .int .i64 0, .int .i64 0, .int .i64 0, .slice none 0 0], .slice (some ⟨W1.heap.size, 0, none⟩) 1 1, .slice A sv.length ca, .agg #[.int .i64 0, .int .i64 0, .int .i64 0, .int .i64 0, .int .i64 0, .int .i64 0, .slice none 0 0]] (W2.alloc (.cells #[.int .u8 0] 5)) fun e w' => e = .returned (.bool true) ∧ Below (W2.alloc (.cells #[.int .u8 0] 5)).heap.size (W2.alloc (.cells #[.int .u8 0] 5)) w' :=
      alone_any 1 plain rb sb ms ct fr hf32 (.mapB (k % 256) (t % 256) 0) .mapB (fun g => { k := g.k, t := g.t, size := g.size }) 7 t k 0 0 0 none 0 0 (some ⟨W1.heap.size, 0, none⟩) 1 A ca [0] sv {} (.slice none 0 0) 0 _ (hE.below (HB2.out.alloc (by omega) _) hE.lt) (fun W' _ => sw_map W' t k 0 0 0 none 0 0 (by omega) (by omega)) (sr_map t k 0 0 0 none 0 0) (by show 32 ≤ 1000000; omega) (C_one1 ((cell_heap (heap_alloc_at HS21.out _) 0).trans rfl)) (Nat.le_refl _) (Kd.C_below hA (HB2.out.alloc (by omega) _)) hcapA h8 (by omega) ⟨0, .inl ⟨rfl, rfl⟩⟩ (Nat.le_refl _)
        (by rw [encC_one _ (.mapB (k % 256) (t % 256) 0) ⟨by omega, by omega, by omega⟩, (wr_map0 _ _).1, (wr_map0 _ _).2]) (rd_map0 _ (wide_of HBW.out).2 (wide_of HBW.out).1 (toB sv)) rfl
    refine HZ.mono ?_
    rintro e W3 ⟨rfl, hB3⟩
    have HC := Lib.hid (((Below.refl _ W2).alloc hs2 (.cells #[.int .u8 0] 5)).trans (hB3.mono (by simp <;> omega)))
    clear hB3 HZ
    go_wp2_with (go_at_call 12; refine (hk.out _).mono ?_; rintro e w' ⟨rfl, hb⟩)
    go_ret
    exact ⟨rfl, HB2.out.trans ((HC.out.trans (hb.mono (Nat.le_trans hs2 HC.out.size))).mono (Nat.le_succ _))⟩
  · have HSV := Lib.hid (fun W => seven_any N (by omega) W)
    have HCK := Lib.hid (fun W => compactType_any HBK.out W)
    have HCT := Lib.hid (fun W => compactType_any HBT.out W)
    go_wp2_with (first
      | (go_at_call 18; (with_reducible refine (HSV.out _).mono ?_); rintro e W3 ⟨v3, rfl, hR3, hB3⟩; obtain ⟨D7, cd7, rfl, hcd7, hCd7⟩ := Kd.R_reads hR3; have HCD7 := Lib.hid hCd7; have HCAP7 := Lib.hid hcd7; have HC7 := Lib.hid (HC.out.trans (hB3.mono (Nat.le_trans hs2 HC.out.size))); have HC := HC7; clear hR3 hB3 hCd7 hcd7)
      | (go_at_call 27; (with_reducible refine (HCK.out _).mono ?_); rintro e W4 ⟨rfl, hB4⟩; have HB4 := Lib.hid hB4; have HC := Lib.hid (HC.out.trans (hB4.mono (Nat.le_trans hs2 HC.out.size))); clear hB4)
      | (go_at_call 27; (with_reducible refine (HCT.out _).mono ?_); rintro e W5 ⟨rfl, hB5⟩; have HB5 := Lib.hid hB5; have HC := Lib.hid (HC.out.trans (hB5.mono (Nat.le_trans hs2 HC.out.size))); clear hB5))
    have hb2y := two_byte (cType_cCode HBK.out).2.2.2.1 (cType_cCode HBT.out).2.2.2.1
    obtain ⟨y, hy⟩ : ∃ y, bits .or .u8 ((cCode k : Int) * 16 % 256) (cCode t : Int) = y := ⟨_, rfl⟩
    rw [hy] at hb2y ⊢
    have HW7 := Lib.hid (fun W (h : Below W5.heap.size W5 W) => HB4.out.trans ((HB5.out.trans (h.mono HB5.out.size)).mono HB4.out.size))
    have HJ := Lib.hid (joined_any (W := (W5.alloc (.cells #[.int .u8 y] 5)).alloc (.cells #[.slice D7 (ints (Lib.uvarint N)).length cd7, .slice (some ⟨W5.heap.size, 0, none⟩) 1 1] 26)) (W5.heap.size + 1) 2 [ints (Lib.uvarint N), [y]] (by simp) (by simp) (by simp) (by have := Lib.uvarint_length64 (x := N) (by omega); simp [ints_length]; omega) (fun j p hj => by
      match j, hj with
      | 0, hj => simp only [List.getElem?_cons_zero, Option.some.injEq] at hj; subst hj; exact ⟨D7, cd7, (cell_heap (heap_alloc_at (by simp) _) 0).trans rfl, HCAP7.out, Kd.C_below HCD7.out (HW7.out _ (((Below.refl _ W5).alloc (Nat.le_refl _) _).alloc (by simp) _))⟩
      | 1, hj => simp only [List.getElem?_cons_succ, List.getElem?_cons_zero, Option.some.injEq] at hj; subst hj; exact ⟨_, 1, (cell_heap (heap_alloc_at (by simp) _) 1).trans rfl, by simp, C_one1 ((cell_heap (heap_alloc_old (heap_alloc_new W5 _) _) 0).trans rfl)⟩
      | j + 2, hj => simp at hj))
    refine HJ.out.mono ?_
    rintro e W6 ⟨v6, rfl, hR6, hB6⟩
    obtain ⟨D, cd, rfl, hcd, hCd⟩ := Kd.R_reads hR6
    obtain ⟨X, hX⟩ : ∃ X, Lib.uvarint N ++ [(cCode k * 16 + cCode t).toUInt8] = X := ⟨_, rfl⟩
    have hX1 : 1 ≤ X.length := by rw [← hX]; simp
    have hfl : [ints (Lib.uvarint N), [y]].flatten = ints X := by
      rw [hb2y, ← hX]
      simp [ints]
    have HX := Lib.hid hX
    clear hX
    rw [hfl] at hcd hCd ⊢
    have HC := Lib.hid (HC.out.trans ((((Below.refl _ W5).alloc (Nat.le_refl _) (.cells #[.int .u8 y] 5)).alloc (by simp) (.cells #[.slice D7 (ints (Lib.uvarint N)).length cd7, .slice (some ⟨W5.heap.size, 0, none⟩) 1 1] 26)).trans (hB6.mono (by simp <;> omega)) |>.mono (Nat.le_trans hs2 HC.out.size)))
    have HCD := Lib.hid hCd
    have HCAP := Lib.hid hcd
    clear hR6 hB6 hCd hcd hfl hb2y hy HJ HW7 HCD7 HCAP7
    obtain ⟨p0, p1, p2, p3, p4, p5, p6⟩ := HPS.out _ HC.out
    have hmk : ∀ w : World, (Instr.makeSlice 26 (.int .i64 (IntKind.i64.wrap (32 * (N : Int)))) (.int .i64 (IntKind.i64.wrap (32 * (N : Int))))).run Tryz.prog w = .ok (.slice (some ⟨w.heap.size, 0, none⟩) (32 * N) (32 * N)) (w.alloc (.cells (madeCells #[.int .u8 0] (32 * N)) 5)) := fun w => by
      have hw32 : IntKind.i64.wrap (32 * (N : Int)) = ((32 * N : Nat) : Int) := by rw [IntKind.wrap_i64]; omega
      rw [hw32]
      exact mk_any (32 * N) (by omega) w
    have HB6 := Lib.hid (HB2.out.trans (HC.out.mono (Nat.le_succ _)))
    have HHE := Lib.hid (fun W (hB : Below w.heap.size w W) => hE.below hB hE.lt)
    have HHA := Lib.hid (fun W (hB : Below w.heap.size w W) => Kd.C_below hA hB)
    have HJ2 := Lib.hid (fun W (hB : Below w.heap.size w W) (h0 : W.heap[W6.heap.size + 1]? = some (.cells #[.slice A sv.length ca, .slice (some ⟨W6.heap.size, 0, none⟩) (32 * N) (32 * N)] 26 (0, 0))) (h1 : W.heap[W6.heap.size]? = some (.cells (madeCells #[.int .u8 0] (32 * N)) 5 (0, 0))) => joined_any (W := W) (W6.heap.size + 1) 2 [sv, List.replicate (32 * N) 0] (by simp) (by simp) (by simp) (by simp; omega) (fun j p hj => by
      match j, hj with
      | 0, hj => simp only [List.getElem?_cons_zero, Option.some.injEq] at hj; subst hj; exact ⟨_, _, (cell_heap h0 0).trans rfl, hcapA, HHA.out W hB⟩
      | 1, hj => simp only [List.getElem?_cons_succ, List.getElem?_cons_zero, Option.some.injEq] at hj; subst hj; exact ⟨some ⟨W6.heap.size, 0, none⟩, 32 * N, (cell_heap h0 1).trans (by simp), by simp, by rw [List.length_replicate]; exact C_zeros (by omega) h1⟩
      | j + 2, hj => simp at hj))
    have hX6 : Below w.heap.size w ((W6.alloc (.cells (madeCells #[.int .u8 0] (32 * N)) 5)).alloc (.cells #[.slice A sv.length ca, .slice (some ⟨W6.heap.size, 0, none⟩) (32 * N) (32 * N)] 26)) := (HB6.out.alloc HB6.out.size _).alloc (by have := HB6.out.size; simp <;> omega) _
    have HJ3 := Lib.hid (HJ2.out ((W6.alloc (.cells (madeCells #[.int .u8 0] (32 * N)) 5)).alloc (.cells #[.slice A sv.length ca, .slice (some ⟨W6.heap.size, 0, none⟩) (32 * N) (32 * N)] 26)) hX6 (heap_alloc_at (by simp) _) (heap_alloc_old (heap_alloc_new W6 _) _))
    have HJ4 := Lib.hid (HJ2.out ((W6.alloc (.cells (madeCells #[.int .u8 0] (32 * N)) 5)).alloc (.cells #[.slice A sv.length ca, .slice (some ⟨W6.heap.size, 0, none⟩) (32 * N) (32 * N)] 26)).drew hX6.drew (show ((W6.alloc (.cells (madeCells #[.int .u8 0] (32 * N)) 5)).alloc (.cells #[.slice A sv.length ca, .slice (some ⟨W6.heap.size, 0, none⟩) (32 * N) (32 * N)] 26)).heap[W6.heap.size + 1]? = _ from heap_alloc_at (by simp) _) (show ((W6.alloc (.cells (madeCells #[.int .u8 0] (32 * N)) 5)).alloc (.cells #[.slice A sv.length ca, .slice (some ⟨W6.heap.size, 0, none⟩) (32 * N) (32 * N)] 26)).heap[W6.heap.size]? = _ from heap_alloc_old (heap_alloc_new W6 _) _))
    have hC6 : Below (w.heap.size + 1) W2 ((W6.alloc (.cells (madeCells #[.int .u8 0] (32 * N)) 5)).alloc (.cells #[.slice A sv.length ca, .slice (some ⟨W6.heap.size, 0, none⟩) (32 * N) (32 * N)] 26)) := (HC.out.alloc (Nat.le_trans hs2 HC.out.size) _).alloc (by have := HC.out.size; simp <;> omega) _
    have HC6 := Lib.hid hC6
    have hs6 : w.heap.size + 1 ≤ ((W6.alloc (.cells (madeCells #[.int .u8 0] (32 * N)) 5)).alloc (.cells #[.slice A sv.length ca, .slice (some ⟨W6.heap.size, 0, none⟩) (32 * N) (32 * N)] 26)).heap.size := Nat.le_trans hs2 hC6.size
    have HS6 := Lib.hid hs6
    have HCD8 := Lib.hid (fun W (h : Below W6.heap.size W6 W) => Kd.C_below HCD.out h)
    have HS7 := Lib.hid (show W6.heap.size ≤ ((W6.alloc (.cells (madeCells #[.int .u8 0] (32 * N)) 5)).alloc (.cells #[.slice A sv.length ca, .slice (some ⟨W6.heap.size, 0, none⟩) (32 * N) (32 * N)] 26)).heap.size by simp <;> omega)
    have HW6 := Lib.hid (show Below W6.heap.size W6 ((W6.alloc (.cells (madeCells #[.int .u8 0] (32 * N)) 5)).alloc (.cells #[.slice A sv.length ca, .slice (some ⟨W6.heap.size, 0, none⟩) (32 * N) (32 * N)] 26)) from ((Below.refl _ W6).alloc (Nat.le_refl _) _).alloc (by simp) _)
    obtain ⟨zs2, hzs2⟩ : ∃ zs2, [sv, List.replicate (32 * N) (0 : Int)].flatten = zs2 := ⟨_, rfl⟩
    have hz8 : ∀ x ∈ zs2, 0 ≤ x ∧ x < 256 := by
      intro x hx
      rw [← hzs2] at hx
      simp only [List.flatten_cons, List.flatten_nil, List.append_nil, List.mem_append, List.mem_replicate] at hx
      rcases hx with hx | ⟨_, rfl⟩
      · exact h8 x hx
      · omega
    have hzl : zs2.length = sv.length + 32 * N := by rw [← hzs2]; simp
    have HAN := Lib.hid (fun W (Dz : Option Addr) (cz : Nat) (hB : Below w.heap.size w W) (h6 : Below W6.heap.size W6 W) (hz : (Kd.int .u8).C W Dz zs2.length zs2) (hcz : zs2.length ≤ cz) => alone_any 1 plain rb sb ms ct fr hf32 (.mapB (k % 256) (t % 256) N) .mapB (fun g => { k := g.k, t := g.t, size := g.size }) 7 t k N 0 0 none 0 0 D cd Dz cz X zs2 { k := k, t := t, size := N } (.slice none 0 0) 0 W (HHE.out W hB) (fun W' _ => sw_map W' t k N 0 0 none 0 0 (by omega) (by omega)) (sr_map t k N 0 0 none 0 0) (by show 32 ≤ 1000000; omega) (HCD8.out W h6) HCAP.out hz hcz hz8 (by omega) ⟨0, .inl ⟨rfl, rfl⟩⟩ hX1
        (by
          rw [encC_one _ (.mapB (k % 256) (t % 256) N) ⟨by omega, by omega, by omega⟩, (wr_map _ _ _ (by omega) (by omega)).1, (wr_map _ _ _ (by omega) (by omega)).2, (cType_cCode HBK.out).2.2.2.2.1, (cType_cCode HBT.out).2.2.2.2.1, Int.toNat_natCast, HX.out]) (by
          have h := rd_map (cfgOf plain rb sb ms ct fr) (wide_of HBW.out).2 (wide_of HBW.out).1 HBK.out HBT.out (N : Int) (by omega) (by omega) (toB zs2) (by rw [toB_len]; omega)
          rw [Int.toNat_natCast, HX.out] at h
          exact h) rfl)
    simp only [confV, gotV, Int.toNat_natCast] at HAN
    clear hX6 hC6 hs6 HJ2 HHE HHA HCD8 HCD hz8 hX1 hzl
    have hwN : IntKind.i64.wrap (N : Int) = N := by rw [IntKind.wrap_i64]; omega
    rw [hzs2] at HJ3 HJ4
    simp only [List.length_cons, List.length_nil, Nat.zero_add, Nat.reduceAdd] at HJ3 HJ4
    go_wp2_with (fail)
    go_region_held3 (fun W' => W'.cell? ⟨w.heap.size, 0, none⟩ = some (.int .i64 1) ∧ W'.cell? ⟨w.heap.size, 1, none⟩ = some (.bool plain) ∧ W'.cell? ⟨w.heap.size, 2, none⟩ = some (.bool rb) ∧ W'.cell? ⟨w.heap.size, 3, none⟩ = some (.bool sb) ∧ W'.cell? ⟨w.heap.size, 4, none⟩ = some (.int .i32 ms) ∧ W'.cell? ⟨w.heap.size, 5, none⟩ = some (.int .i32 ct) ∧ W'.cell? ⟨w.heap.size, 6, none⟩ = some (.int .i32 fr)) (first | exact ⟨p0, p1, p2, p3, p4, p5, p6⟩ | exact HPS.out _ HC.out | exact HPS.out _ HC6.out | exact HPS.out _ HC6.out.drew | exact HPS.out _ (HC.out.alloc (Nat.le_trans hs2 HC.out.size) _) | exact HPS.out _ (HC.out.alloc (Nat.le_trans hs2 HC.out.size) _).drew | exact HPS.out _ HC.out.drew)
      (first
        | (go_at_call 19; (with_reducible refine HJ4.out.mono ?_); rintro e W7 ⟨v7, rfl, hR7, hB7⟩; obtain ⟨Dz, cz, rfl, hcz, hCz⟩ := Kd.R_reads hR7; have HCZ := Lib.hid hCz; have HCAZ := Lib.hid hcz; have HW7 := Lib.hid (HW6.out.drew.trans (hB7.mono HS7.out)); have HC := Lib.hid (HC6.out.drew.trans (hB7.mono HS6.out)); clear hR7 hB7 hCz hcz)
        | (go_at_call 19; (with_reducible refine HJ3.out.mono ?_); rintro e W7 ⟨v7, rfl, hR7, hB7⟩; obtain ⟨Dz, cz, rfl, hcz, hCz⟩ := Kd.R_reads hR7; have HCZ := Lib.hid hCz; have HCAZ := Lib.hid hcz; have HW7 := Lib.hid (HW6.out.trans (hB7.mono HS7.out)); have HC := Lib.hid (HC6.out.trans (hB7.mono HS6.out)); clear hR7 hB7 hCz hcz)
        | (go_at_call 20; (with_reducible refine (HAN.out W7 Dz cz (HB2.out.trans (HC.out.mono (Nat.le_succ _))) HW7.out HCZ.out HCAZ.out).mono ?_); rintro e W8 ⟨rfl, hB8⟩; have HC := Lib.hid (HC.out.trans (hB8.mono (Nat.le_trans hs2 HC.out.size))); clear hB8)
        | (go_at_call 12; refine (hk.out _).mono ?_; rintro e W9 ⟨rfl, hB9⟩; have HC := Lib.hid (HC.out.trans (hB9.mono (Nat.le_trans hs2 HC.out.size))); clear hB9))
    all_goals (
      go_wp2_with (fail)
      go_ret
      exact ⟨rfl, HB2.out.trans (HC.out.mono (Nat.le_succ _))⟩)

end Go.Proofs.YthmkkbihfdcbiaaGreatDoor

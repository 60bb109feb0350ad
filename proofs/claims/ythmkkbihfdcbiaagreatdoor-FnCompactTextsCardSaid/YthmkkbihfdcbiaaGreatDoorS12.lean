/- The walk of FnCompactTexts. -/
import Derived.Test.YthmkkbihfdcbiaaGreatDoorMx
import Derived.Test.YthmkkbihfdcbiaaGreatDoorMr
import Derived.Test.YthmkkbihfdcbiaaGreatDoorMb2
namespace Go.Proofs.YthmkkbihfdcbiaaGreatDoor
open Go.RowKit Go.Deep
set_option linter.unusedVariables false
set_option linter.unusedSimpArgs false
open Go.Proofs.YthmkkbihfdcbiaaGreatDoorW.PrintWords

theorem row_of {xs : List Int} (h8 : ∀ x ∈ xs, 0 ≤ x ∧ x < 256) {A : Option Addr} {c : Nat} {W : World} (hc : xs.length ≤ c) (hC : (Kd.int .u8).C W A xs.length xs) : RowB (toB xs) (.slice A xs.length c) W := by
  have e : ints (toB xs) = xs := ints_toB h8
  refine ⟨A, c, ?_, ?_, ?_⟩ <;> rw [e]
  · exact hc
  · exact hC

theorem isWide_any' {proto : Int} {plain rb sb : Bool} {ms ct fr : Int} {b : Bool} (h : laws_isWide.f proto plain rb sb ms ct fr = some b) (w : World) : Calls Tryz.prog 23 #[.agg #[.int .i64 proto, .bool plain, .bool rb, .bool sb, .int .i32 ms, .int .i32 ct, .int .i32 fr]] w fun e w' => e = .returned (.bool b) ∧ Below w.heap.size w w' :=
  laws_isWide.calls proto plain rb sb ms ct fr b w h

set_option maxRecDepth 100000 in
set_option maxHeartbeats 2000000 in
theorem fnCompactTexts_walk (proto : Int) (plain rb sb : Bool) (ms ct fr : Int) (A1 : Option Addr) (l1 c1 : Nat) (zs1 : List Int) (A : Option Addr) (la ca : Nat) (zs : List Int) (w : World) (hf : (Lit.int .i64 proto).wf = true ∧ (Lit.int .i32 ms).wf = true ∧ (Lit.int .i32 ct).wf = true ∧ (Lit.int .i32 fr).wf = true)
    (hr1 : IsRow .u8 w A1 l1 c1 zs1) (hr : IsRow .u8 w A la ca zs) (hE : EofAt w) :
    Calls Tryz.prog 6 #[confV proto plain rb sb ms ct fr, .slice A1 l1 c1, .slice A la ca] w fun e w' => e = .returned (.bool true) ∧ Below w.heap.size w w' := by
  have hf32 : (cfgOf plain rb sb ms ct fr).fit := by
    have e1 : IntKind.i32.min = -2147483648 := by decide
    have e2 : IntKind.i32.max = 2147483647 := by decide
    have h1 : IntKind.i32.min ≤ ms ∧ ms ≤ IntKind.i32.max := by simpa [Lit.wf] using hf.2.1
    have h2 : IntKind.i32.min ≤ ct ∧ ct ≤ IntKind.i32.max := by simpa [Lit.wf] using hf.2.2.1
    refine ⟨⟨?_, ?_⟩, ⟨?_, ?_⟩⟩ <;> simp only [cfgOf] <;> omega
  have hcapA : la ≤ ca := hr.cap
  have hcap1 : l1 ≤ c1 := hr1.cap
  obtain ⟨sv, rfl, hA, h8⟩ := row_bytes hr
  obtain ⟨nv, rfl, hA1, h81⟩ := row_bytes hr1
  clear hr hr1 hf
  have hk := Lib.hid known_any
  have HBY := Lib.hid (fun (W : World) => by_any 1 proto plain rb sb ms ct fr W)
  obtain ⟨bw, hbw⟩ := isWide_f proto plain rb sb ms ct fr
  have HWD := Lib.hid (fun W => isWide_any' hbw W)
  have HBW := Lib.hid hbw
  clear hbw
  by_cases hl1 : nv.length ≤ 2147483647
  case neg =>
    have hl1' : ¬ ((nv.length : Int) ≤ 2147483647) := by omega
    go_enter Tryz.func6, Tryz.ntmps6
    go_wp2_with (fail)
    go_ret
    exact ⟨rfl, (Below.refl _ w).alloc (Nat.le_refl _) _⟩
  have hl1' : (nv.length : Int) ≤ 2147483647 := by omega
  by_cases hl2 : sv.length ≤ 2147483647
  case neg =>
    have hl2' : ¬ ((sv.length : Int) ≤ 2147483647) := by omega
    go_enter Tryz.func6, Tryz.ntmps6
    go_wp2_with (fail)
    go_ret
    exact ⟨rfl, (Below.refl _ w).alloc (Nat.le_refl _) _⟩
  have hl2' : (sv.length : Int) ≤ 2147483647 := by omega
  obtain ⟨W0, hW0⟩ : ∃ W0, W0 = w.alloc (.cells #[.int .i64 proto, .bool plain, .bool rb, .bool sb, .int .i32 ms, .int .i32 ct, .int .i32 fr] 25) := ⟨_, rfl⟩
  have hB0 : Below w.heap.size w W0 := by rw [hW0]; exact (Below.refl _ w).alloc (Nat.le_refl _) _
  have hb0 : W0.heap[w.heap.size]? = some (.cells #[.int .i64 proto, .bool plain, .bool rb, .bool sb, .int .i32 ms, .int .i32 ct, .int .i32 fr] 25 (0, 0)) := by rw [hW0]; exact heap_alloc_new w _
  have HB0 := Lib.hid hB0
  have HC := Lib.hid (Below.refl W0.heap.size W0)
  have hs0 : w.heap.size ≤ W0.heap.size := hB0.size
  have HPS := Lib.hid (fun W (hB : Below W0.heap.size W0 W) => (Box7.at_ hb0).of hB (lt_heap hb0))
  obtain ⟨p0, p1, p2, p3, p4, p5, p6⟩ := Box7.at_ hb0
  have HB0K := Lib.hid hb0
  clear hb0 hB0
  by_cases hm1 : nv.length ≤ 65536
  case neg =>
    have hm1' : ¬ ((nv.length : Int) ≤ 65536) := by omega
    go_enter Tryz.func6, Tryz.ntmps6
    go_wp2_with (fail)
    rw [← hW0]
    go_wp2_with (first | (go_at_call 23; (with_reducible refine (HWD.out _).mono ?_); rintro e W3 ⟨rfl, hB3⟩; have HC := Lib.hid (HC.out.trans (hB3.mono HC.out.size)); clear hB3; obtain ⟨p0, p1, p2, p3, p4, p5, p6⟩ := HPS.out _ HC.out) | (go_at_call 12; refine (hk.out _).mono ?_; rintro e w' ⟨rfl, hb⟩))
    go_ret
    exact ⟨rfl, HB0.out.trans ((HC.out.trans (hb.mono HC.out.size)).mono hs0)⟩
  have hm1' : (nv.length : Int) ≤ 65536 := by omega
  by_cases hm2 : sv.length ≤ 65536
  case neg =>
    have hm2' : ¬ ((sv.length : Int) ≤ 65536) := by omega
    go_enter Tryz.func6, Tryz.ntmps6
    go_wp2_with (fail)
    rw [← hW0]
    go_wp2_with (first | (go_at_call 23; (with_reducible refine (HWD.out _).mono ?_); rintro e W3 ⟨rfl, hB3⟩; have HC := Lib.hid (HC.out.trans (hB3.mono HC.out.size)); clear hB3; obtain ⟨p0, p1, p2, p3, p4, p5, p6⟩ := HPS.out _ HC.out) | (go_at_call 12; refine (hk.out _).mono ?_; rintro e w' ⟨rfl, hb⟩))
    go_ret
    exact ⟨rfl, HB0.out.trans ((HC.out.trans (hb.mono HC.out.size)).mono hs0)⟩
  have hm2' : (sv.length : Int) ≤ 65536 := by omega
  by_cases hbw : bw = false
  case pos =>
    subst hbw
    go_enter Tryz.func6, Tryz.ntmps6
    go_wp2_with (fail)
    rw [← hW0]
    go_wp2_with (first | (go_at_call 23; (with_reducible refine (HWD.out _).mono ?_); rintro e W3 ⟨rfl, hB3⟩; have HC := Lib.hid (HC.out.trans (hB3.mono HC.out.size)); clear hB3; obtain ⟨p0, p1, p2, p3, p4, p5, p6⟩ := HPS.out _ HC.out) | (go_at_call 12; refine (hk.out _).mono ?_; rintro e w' ⟨rfl, hb⟩))
    go_ret
    exact ⟨rfl, HB0.out.trans ((HC.out.trans (hb.mono HC.out.size)).mono hs0)⟩
  obtain rfl : bw = true := by simpa using hbw
  clear hbw
  go_enter Tryz.func6, Tryz.ntmps6
  go_wp2_with (fail)
  rw [← hW0]
  go_wp2_with (first | (go_at_call 23; (with_reducible refine (HWD.out _).mono ?_); rintro e W3 ⟨rfl, hB3⟩; have HC := Lib.hid (HC.out.trans (hB3.mono HC.out.size)); clear hB3; obtain ⟨p0, p1, p2, p3, p4, p5, p6⟩ := HPS.out _ HC.out))
  refine (HBY.out _).mono ?_
  rintro e W1 ⟨rfl, hB1⟩
  have HBB := Lib.hid (HC.out.trans (hB1.mono HC.out.size))
  clear hB1
  have hbk : W1.heap[w.heap.size]? = some (.cells #[.int .i64 proto, .bool plain, .bool rb, .bool sb, .int .i32 ms, .int .i32 ct, .int .i32 fr] 25 (0, 0)) := (HBB.out.block _ (lt_heap HB0K.out)).trans HB0K.out
  have HW1 := Lib.hid (HB0.out.trans (HBB.out.mono hs0))
  have hz := frozen_heap hbk
  obtain ⟨p0, p1, p2, p3, p4, p5, p6⟩ := Box7.at_ hbk
  go_wp2_with (fail)
  obtain ⟨W2, hW2⟩ : ∃ W2, W2 = ((((((W1.setCell ⟨w.heap.size, 0, none⟩ (.int .i64 1)).setCell ⟨w.heap.size, 1, none⟩ (.bool plain)).setCell ⟨w.heap.size, 2, none⟩ (.bool rb)).setCell ⟨w.heap.size, 3, none⟩ (.bool sb)).setCell ⟨w.heap.size, 4, none⟩ (.int .i32 ms)).setCell ⟨w.heap.size, 5, none⟩ (.int .i32 ct)).setCell ⟨w.heap.size, 6, none⟩ (.int .i32 fr) := ⟨_, rfl⟩
  have hB2 : Below w.heap.size w W2 := by rw [hW2]; exact ((((((HW1.out.setCell (Nat.le_refl _) _).setCell (Nat.le_refl _) _).setCell (Nat.le_refl _) _).setCell (Nat.le_refl _) _).setCell (Nat.le_refl _) _).setCell (Nat.le_refl _) _).setCell (Nat.le_refl _) _
  have hb2 : W2.heap[w.heap.size]? = some (.cells #[.int .i64 1, .bool plain, .bool rb, .bool sb, .int .i32 ms, .int .i32 ct, .int .i32 fr] 25 (0, 0)) := by
    rw [hW2]
    exact (heap_set_same (o := 6) (heap_set_same (o := 5) (heap_set_same (o := 4) (heap_set_same (o := 3) (heap_set_same (o := 2) (heap_set_same (o := 1) (heap_set_same (o := 0) hbk _) _) _) _) _) _) _).trans rfl
  have hs21 : W1.heap.size = W2.heap.size := by rw [hW2]; simp
  rw [← hW2]
  clear hW2 p0 p1 p2 p3 p4 p5 p6 hz hbk HBB
  have HB2 := Lib.hid hB2
  have hs2 : w.heap.size < W2.heap.size := lt_heap hb2
  have HPS := Lib.hid (fun W (hB : Below W2.heap.size W2 W) => (Box7.at_ hb2).of hB (lt_heap hb2))
  have hfz1 := frozen_heap hb2
  clear hb2 hB2 hs21
  have HSV := Lib.hid (fun (M : Nat) (h : M < 18446744073709551616) W => seven_any M h W)
  refine (HSV.out nv.length (by omega) W2).mono ?_
  rintro e W4 ⟨v4, rfl, hR4, hB4⟩
  obtain ⟨D4, cd4, rfl, hcd4, hCd4⟩ := Kd.R_reads hR4
  have HC := Lib.hid hB4
  have HCD4 := Lib.hid hCd4
  have HCAP4 := Lib.hid hcd4
  clear hR4 hB4 hCd4 hcd4
  go_wp2_with (fail)
  have hu4 := Lib.uvarint_length64 (x := nv.length) (by omega)
  obtain ⟨W6, hW6⟩ : ∃ W6, W6 = W4.alloc (.cells #[.slice D4 (ints (Lib.uvarint nv.length)).length cd4, .slice A1 nv.length c1] 26) := ⟨_, rfl⟩
  have hb6 : W6.heap[W4.heap.size]? = some (.cells #[.slice D4 (ints (Lib.uvarint nv.length)).length cd4, .slice A1 nv.length c1] 26 (0, 0)) := by rw [hW6]; exact heap_alloc_new W4 _
  have hB64 : Below W4.heap.size W4 W6 := by rw [hW6]; exact (Below.refl _ W4).alloc (Nat.le_refl _) _
  rw [← hW6]
  clear hW6
  have HC6 := Lib.hid (HC.out.trans (hB64.mono HC.out.size))
  have hA6 := Kd.C_below hA1 (HB2.out.trans (HC6.out.mono HB2.out.size))
  have HJ := Lib.hid (joined_any (W := W6) W4.heap.size 2 [ints (Lib.uvarint nv.length), nv] (by simp) (by simp) (by simp) (by simp [ints_length]; omega) (fun j p hj => by
    match j, hj with
    | 0, hj => simp only [List.getElem?_cons_zero, Option.some.injEq] at hj; subst hj; exact ⟨_, _, (cell_heap hb6 0).trans rfl, HCAP4.out, Kd.C_below HCD4.out hB64⟩
    | 1, hj => simp only [List.getElem?_cons_succ, List.getElem?_cons_zero, Option.some.injEq] at hj; subst hj; exact ⟨_, _, (cell_heap hb6 1).trans rfl, hcap1, hA6⟩
    | j + 2, hj => simp at hj))
  refine HJ.out.mono ?_
  rintro e W8 ⟨v8, rfl, hR8, hB8⟩
  obtain ⟨D, cd, rfl, hcd, hCd⟩ := Kd.R_reads hR8
  have HC := Lib.hid (HC6.out.trans (hB8.mono HC6.out.size))
  have hnvB : ints (toB nv) = nv := ints_toB h81
  have hfl : [ints (Lib.uvarint nv.length), nv].flatten = ints (cText (toB nv)) := by
    have e1 : (toB nv).length = nv.length := by simp [toB]
    unfold cText
    rw [e1]
    simp only [List.flatten_cons, List.flatten_nil, List.append_nil]
    conv => lhs; rw [← hnvB]
    simp [ints, toB]
  rw [hfl] at hcd hCd ⊢
  have HCD := Lib.hid hCd
  have HCAPD := Lib.hid hcd
  clear hR8 hB8 hfl hcd hCd HJ hb6 hA6 HC6 hB64 HCD4 HCAP4
  obtain ⟨p0, p1, p2, p3, p4, p5, p6⟩ := HPS.out _ HC.out
  have htl : (toB nv).length = nv.length := by simp [toB]
  have hsv8 := Kd.C_below hA (HB2.out.trans (HC.out.mono HB2.out.size))
  have hnv8 := Kd.C_below hA1 (HB2.out.trans (HC.out.mono HB2.out.size))
  have hE8 := hE.below (HB2.out.trans (HC.out.mono HB2.out.size)) hE.lt
  have hm := (wide_of HBW.out).1
  have HX := Lib.hid (Below.refl W8.heap.size W8)
  have H19 := Lib.hid (fun W (hB : Below W8.heap.size W8 W) => (alone_row 1 plain rb sb ms ct fr hf32 (.str (toB nv)) .str (fun g => { s := g.s }) 19 0 0 0 0 0 A1 nv.length c1 D cd A ca (cText (toB nv)) sv { s := toB nv } (.slice A1 nv.length c1) W
    (hE8.below hB (by have := hE8.lt; omega)) (fun W' hB' => sw_str W' 0 0 0 0 0 A1 c1 nv (Kd.C_below (Kd.C_below hnv8 hB) hB') (by omega)) (sr_str _ _ _ _ _ _ _ _) (by show (toB nv).length + 32 ≤ _; omega) (Kd.C_below HCD.out hB) HCAPD.out (Kd.C_below hsv8 hB) hcapA h8 (by omega) (row_of h81 hcap1 (Kd.C_below hnv8 hB)) (cText_pos _) (enc_text _ _ (by omega)).1 (rd_text _ hm _ (by omega) _) rfl).mono fun e w' h => show e = .returned (.bool true) ∧ Below W8.heap.size W8 w' from ⟨h.1, hB.trans (h.2.mono hB.size)⟩)
  have H20 := Lib.hid (fun W (hB : Below W8.heap.size W8 W) => (alone_row 1 plain rb sb ms ct fr hf32 (.bin (toB nv)) .str (fun g => { s := g.s }) 20 0 0 0 0 0 A1 nv.length c1 D cd A ca (cText (toB nv)) sv { s := toB nv } (.slice A1 nv.length c1) W
    (hE8.below hB (by have := hE8.lt; omega)) (fun W' hB' => sw_bin W' 0 0 0 0 0 A1 c1 nv (Kd.C_below (Kd.C_below hnv8 hB) hB') h81 (by omega)) (sr_bin _ _ _ _ _ _ _ _) (by show (toB nv).length + 32 ≤ _; omega) (Kd.C_below HCD.out hB) HCAPD.out (Kd.C_below hsv8 hB) hcapA h8 (by omega) (row_of h81 hcap1 (Kd.C_below hnv8 hB)) (cText_pos _) (enc_text _ _ (by omega)).2 (rd_text _ hm _ (by omega) _) rfl).mono fun e w' h => show e = .returned (.bool true) ∧ Below W8.heap.size W8 w' from ⟨h.1, hB.trans (h.2.mono hB.size)⟩)
  obtain ⟨U, hU⟩ : ∃ U, u16 (toB nv) = U := ⟨_, rfl⟩
  have hUl : U.length = 16 := by rw [← hU]; exact u16_length _
  have heU := enc_uuid (cfgOf plain rb sb ms ct fr) (toB nv)
  have hrU := rd_uuid (cfgOf plain rb sb ms ct fr) (toB nv) (toB sv)
  have hpf := padded_f nv h81 (by omega)
  rw [hU] at heU hrU hpf
  have H21 := Lib.hid (fun W (P1 : Option Addr) (d1 : Nat) (P2 : Option Addr) (d2 : Nat) (hB : Below W8.heap.size W8 W) (hc1 : (Kd.int .u8).C W P1 (ints U).length (ints U)) (hd1 : (ints U).length ≤ d1) (hc2 : (Kd.int .u8).C W P2 (ints U).length (ints U)) (hd2 : (ints U).length ≤ d2) => (alone_row 1 plain rb sb ms ct fr hf32 (.uuid U) .uuid (fun g => { s := g.s }) 21 0 0 0 0 0 A1 nv.length c1 P1 d1 A ca U sv { s := U } (.slice P2 (ints U).length d2) W
    (hE8.below hB (by have := hE8.lt; omega)) (fun W' hB' => by
      have h := sw_uuid W' 0 0 0 0 0 A1 c1 nv (Kd.C_below (Kd.C_below hnv8 hB) hB') h81
      rw [hU] at h
      exact h) (sr_uuid _ _ _ _ _ _ _ _) (by show 32 ≤ _; omega) hc1 hd1 (Kd.C_below hsv8 hB) hcapA h8 (by omega) ⟨P2, d2, rfl, hd2, hc2⟩ (by omega) heU hrU rfl).mono fun e w' h => show e = .returned (.bool true) ∧ Below W8.heap.size W8 w' from ⟨h.1, hB.trans (h.2.mono hB.size)⟩)
  have HPD := Lib.hid (fun W (hB : Below W8.heap.size W8 W) => (laws_padded.calls 17 A1 c1 nv _ W (Kd.C_below hnv8 hB) hcap1 hpf).mono fun e w' hh => (by
    obtain ⟨v, h1, h2, h3⟩ := hh
    obtain ⟨P, d, rfl, hd, hC⟩ := Kd.R_reads h2
    exact ⟨P, d, h1, hC, hd, hB.trans (h3.mono hB.size), h3⟩ : ∃ P d, e = Ending.returned (.slice P (ints U).length d) ∧ (Kd.int .u8).C w' P (ints U).length (ints U) ∧ (ints U).length ≤ d ∧ Below W8.heap.size W8 w' ∧ Below W.heap.size W w'))
  have HKN := Lib.hid (fun W (hB : Below W8.heap.size W8 W) => (hk.out W).mono fun e w' h => show e = .returned (.bool true) ∧ Below W8.heap.size W8 w' from ⟨h.1, hB.trans (h.2.mono hB.size)⟩)
  have HS2 := Lib.hid (fun W (hB : Below W8.heap.size W8 W) => HPS.out W (HC.out.trans (hB.mono HC.out.size)))
  have hl8 := HC.out.size
  simp only [confV, gotV] at H19 H20 H21
  clear htl hsv8 hnv8 hE8 hm hU hUl heU hrU hpf hu4 hE hnvB
  go_wp2_with (fail)
  go_region_held3 (fun W' => W'.cell? ⟨w.heap.size, 0, none⟩ = some (.int .i64 1) ∧ W'.cell? ⟨w.heap.size, 1, none⟩ = some (.bool plain) ∧ W'.cell? ⟨w.heap.size, 2, none⟩ = some (.bool rb) ∧ W'.cell? ⟨w.heap.size, 3, none⟩ = some (.bool sb) ∧ W'.cell? ⟨w.heap.size, 4, none⟩ = some (.int .i32 ms) ∧ W'.cell? ⟨w.heap.size, 5, none⟩ = some (.int .i32 ct) ∧ W'.cell? ⟨w.heap.size, 6, none⟩ = some (.int .i32 fr)) (first | exact ⟨p0, p1, p2, p3, p4, p5, p6⟩ | exact HS2.out _ HX.out | exact HS2.out _ HX.out.drew | exact HS2.out _ (HX.out.alloc HX.out.size _) | exact HS2.out _ (HX.out.alloc HX.out.size _).drew | (simp [go_sem, *]; done) | fail)
    (first
      | (go_at_call 20; (with_reducible refine (H19.out _ ?_).mono ?_); (· (repeat (first | (with_reducible exact HX.out) | (with_reducible exact Below.refl _ _) | (with_reducible refine Below.drew ?_) | (with_reducible refine Below.alloc ?_ (by have := HX.out.size; simp <;> omega) _)))); rintro e W9 ⟨rfl, hB9⟩; have HX := Lib.hid hB9; clear hB9)
      | (go_at_call 20; (with_reducible refine (H20.out _ ?_).mono ?_); (· (repeat (first | (with_reducible exact HX.out) | (with_reducible exact Below.refl _ _) | (with_reducible refine Below.drew ?_) | (with_reducible refine Below.alloc ?_ (by have := HX.out.size; simp <;> omega) _)))); rintro e W9 ⟨rfl, hB9⟩; have HX := Lib.hid hB9; clear hB9)
      | (go_at_call 24; have HPA1 := HPA; (with_reducible refine (HPD.out _ ?_).mono ?_); (· (repeat (first | (with_reducible exact HX.out) | (with_reducible exact Below.refl _ _) | (with_reducible refine Below.drew ?_) | (with_reducible refine Below.alloc ?_ (by have := HX.out.size; simp <;> omega) _)))); rintro e W9 ⟨P2, d2, rfl, hc2, hd2, hB9, hBW9⟩; have HX := Lib.hid hB9; have HPB := Lib.hid (And.intro (Kd.C_below HPA.out.1 hBW9) (And.intro HPA.out.2 (And.intro hc2 hd2))); clear hB9 hc2 hd2 hBW9)
      | (go_at_call 24; (with_reducible refine (HPD.out _ ?_).mono ?_); (· (repeat (first | (with_reducible exact HX.out) | (with_reducible exact Below.refl _ _) | (with_reducible refine Below.drew ?_) | (with_reducible refine Below.alloc ?_ (by have := HX.out.size; simp <;> omega) _)))); rintro e W9 ⟨P1, d1, rfl, hc1, hd1, hB9, hBW9⟩; have HX := Lib.hid hB9; have HPA := Lib.hid (And.intro hc1 hd1); clear hB9 hc1 hd1 hBW9)
      | (go_at_call 20; (with_reducible refine (H21.out _ P1 d1 P2 d2 HX.out HPB.out.1 HPB.out.2.1 HPB.out.2.2.1 HPB.out.2.2.2).mono ?_); rintro e W9 ⟨rfl, hB9⟩; have HX := Lib.hid hB9; clear hB9)
      | (go_at_call 12; (with_reducible refine (HKN.out _ HX.out).mono ?_); rintro e W9 ⟨rfl, hB9⟩; have HX := Lib.hid hB9; clear hB9))
  all_goals go_wp2_with (fail)
  all_goals go_ret
  all_goals exact ⟨rfl, HB2.out.trans ((HC.out.trans (HX.out.mono hl8)).mono HB2.out.size)⟩

end Go.Proofs.YthmkkbihfdcbiaaGreatDoor

/- The walk of FnSkipDeep. -/
import Derived.Test.YtmjcnomgpikncaaGreatDoorMz1
import Derived.Test.YtmjcnomgpikncaaGreatDoorMs1
import Derived.Test.YtmjcnomgpikncaaGreatDoorMr
import Derived.Test.YtmjcnomgpikncaaGreatDoorMx
import Derived.Test.YtmjcnomgpikncaaGreatDoorMr2
import Derived.Test.YtmjcnomgpikncaaGreatDoorMg1
import Derived.Test.YtmjcnomgpikncaaGreatDoorMn
import Derived.Test.YtmjcnomgpikncaaGreatDoorMy4
import Derived.Test.YtmjcnomgpikncaaGreatDoorMs2
import Derived.Test.YtmjcnomgpikncaaGreatDoorMb2
import Derived.Test.YtmjcnomgpikncaaGreatDoorMb1
namespace Go.Proofs.YtmjcnomgpikncaaGreatDoor
open Go.RowKit Go.Deep
set_option linter.unusedVariables false
set_option linter.unusedSimpArgs false
open Go.Proofs.YtmjcnomgpikncaaGreatDoorW.PrintWords

theorem two_drew (w : World) (o1 o2 : Obj) : w.heap.size + 1 < ((w.alloc o1).alloc o2).drew.heap.size := by
  show w.heap.size + 1 < ((w.alloc o1).alloc o2).heap.size
  simp

theorem two_drew_at (w : World) (o1 o2 : Obj) : ((w.alloc o1).alloc o2).drew.heap[w.heap.size + 1]? = some o2 :=
  show ((w.alloc o1).alloc o2).heap[w.heap.size + 1]? = some o2 from heap_alloc_at (by simp) _

theorem two_drew0 (w : World) (o1 o2 : Obj) : w.heap.size < ((w.alloc o1).alloc o2).drew.heap.size := by
  show w.heap.size < ((w.alloc o1).alloc o2).heap.size
  simp <;> omega

theorem two_drew_at0 (w : World) (o1 o2 : Obj) : ((w.alloc o1).alloc o2).drew.heap[w.heap.size]? = some o1 :=
  show ((w.alloc o1).alloc o2).heap[w.heap.size]? = some o1 from heap_alloc_old (heap_alloc_new w _) _

theorem isWide_any' {proto : Int} {plain rb sb : Bool} {ms ct fr : Int} {b : Bool} (h : laws_isWide.f proto plain rb sb ms ct fr = some b) (w : World) : Calls Tryz.prog 15 #[.agg #[.int .i64 proto, .bool plain, .bool rb, .bool sb, .int .i32 ms, .int .i32 ct, .int .i32 fr]] w fun e w' => e = .returned (.bool b) ∧ Below w.heap.size w w' :=
  laws_isWide.calls proto plain rb sb ms ct fr b w h

theorem and1 (p : Int) : bits .and .i64 p 1 = 0 ∨ bits .and .i64 p 1 = 1 := by
  rw [i64_one]
  omega

set_option maxRecDepth 100000 in
set_option maxHeartbeats 2000000 in
theorem fnSkipDeep_walk (proto : Int) (plain rb sb : Bool) (ms ct fr : Int) (x0 x1 x2 x3 x4 x5 x6 : Value) (V : Val) (A : Option Addr) (la ca : Nat) (zs : List Int) (w : World) (hf : (Lit.int .i64 proto).wf = true ∧ (Lit.int .i32 ms).wf = true ∧ (Lit.int .i32 ct).wf = true ∧ (Lit.int .i32 fr).wf = true)
    (hK : kVal.K w V [x0, x1, x2, x3, x4, x5, x6]) (hV : okV V)
    (hr : IsRow .u8 w A la ca zs) (hE : EofAt w) :
    Calls Tryz.prog 4 #[confV proto plain rb sb ms ct fr, .agg #[x0, x1, x2, x3, x4, x5, x6], .slice A la ca] w fun e w' => e = .returned (.bool true) ∧ Below w.heap.size w w' := by
  have hf32 : (cfgOf plain rb sb ms ct fr).fit := by
    have e1 : IntKind.i32.min = -2147483648 := by decide
    have e2 : IntKind.i32.max = 2147483647 := by decide
    have h1 : IntKind.i32.min ≤ ms ∧ ms ≤ IntKind.i32.max := by simpa [Lit.wf] using hf.2.1
    have h2 : IntKind.i32.min ≤ ct ∧ ct ≤ IntKind.i32.max := by simpa [Lit.wf] using hf.2.2.1
    refine ⟨⟨?_, ?_⟩, ⟨?_, ?_⟩⟩ <;> simp only [cfgOf] <;> omega
  have hpr : -9223372036854775808 ≤ proto ∧ proto < 9223372036854775808 := by
    have e1 : IntKind.i64.min = -9223372036854775808 := by decide
    have e2 : IntKind.i64.max = 9223372036854775807 := by decide
    have h1 : IntKind.i64.min ≤ proto ∧ proto ≤ IntKind.i64.max := by simpa [Lit.wf] using hf.1
    omega
  have hx0 : x0 = .int .i64 V.f0 := by
    obtain ⟨A2, c2, A5, c5, A6, c6, he, -⟩ := kVal_open hK
    simp only [List.cons.injEq, and_true] at he
    exact he.1
  subst hx0
  have hcapA : la ≤ ca := hr.cap
  obtain ⟨sv, rfl, hA, h8⟩ := row_bytes hr
  clear hr
  clear hf
  have hk := Lib.hid known_any
  obtain ⟨bw, hbw⟩ := isWide_f proto plain rb sb ms ct fr
  have HWD := Lib.hid (fun W => isWide_any' hbw W)
  have HBW := Lib.hid hbw
  clear hbw
  have HF := Lib.hid (fun W hB => fits_any hK W hB)
  have HH := Lib.hid (fun W hB A c => heavy_any hV hK W hB A c)
  have HR := Lib.hid (fun W hB => right_any hV hK W hB)
  have HP := Lib.hid (fun hw n W hB hr h0 => Put_C V hw n plain rb sb ms ct fr _ x1 x2 x3 x4 x5 x6 W (kVal.K_below hB hK) hr h0)
  have HK := Lib.hid hK
  clear hK
  have HE := Lib.hid hE
  clear hE
  go_enter Tryz.func4, Tryz.ntmps4
  go_wp2_with (fail)
  obtain ⟨W0, hW0⟩ : ∃ W0, W0 = (w.alloc (.cells #[.int .i64 proto, .bool plain, .bool rb, .bool sb, .int .i32 ms, .int .i32 ct, .int .i32 fr] 23)).alloc (.cells #[.int .i64 V.f0, x1, x2, x3, x4, x5, x6] 28) := ⟨_, rfl⟩
  have hsz : W0.heap.size = w.heap.size + 1 + 1 := by rw [hW0]; simp
  have B0 : Box7 w.heap.size (.int .i64 proto) (.bool plain) (.bool rb) (.bool sb) (.int .i32 ms) (.int .i32 ct) (.int .i32 fr) W0 := by
    rw [hW0]; exact Box7.at_ (heap_alloc_old (heap_alloc_new w _) _)
  have B1 : Box7 (w.heap.size + 1) (.int .i64 V.f0) x1 x2 x3 x4 x5 x6 W0 := by
    rw [hW0]; exact Box7.at_ (heap_alloc_at (by simp) _)
  have F0 : W0.frozen? ⟨w.heap.size, 0, none⟩ = false := by
    rw [hW0]; exact frozen_heap (heap_alloc_old (heap_alloc_new w _) _) 0
  have HW0 := Lib.hid (show Below w.heap.size w W0 from by rw [hW0]; exact ((Below.refl _ w).alloc (Nat.le_refl _) _).alloc (by simp) _)
  rw [← hW0]
  have HB0 := Lib.hid (show Box7 w.heap.size (.int .i64 proto) (.bool plain) (.bool rb) (.bool sb) (.int .i32 ms) (.int .i32 ct) (.int .i32 fr) W0 ∧ Box7 (w.heap.size + 1) (.int .i64 V.f0) x1 x2 x3 x4 x5 x6 W0 from ⟨B0, B1⟩)
  have HF0 := Lib.hid F0
  clear hW0 B0 B1 F0
  refine (HF.out _ HW0.out).mono ?_
  rintro e W1 ⟨rfl, hB1⟩
  have HB1 := Lib.hid hB1
  have HW1 := Lib.hid (HW0.out.trans (hB1.mono HW0.out.size))
  clear hB1
  cases hfit : fitsV V
  · go_wp2_with (fail)
    go_ret
    exact ⟨rfl, HW1.out⟩
  by_cases hl1 : sv.length ≤ 2147483647
  case neg =>
    have hl1' : ¬ ((sv.length : Int) ≤ 2147483647) := by omega
    go_wp2_with (fail)
    go_ret
    exact ⟨rfl, HW1.out⟩
  have hl1' : (sv.length : Int) ≤ 2147483647 := by omega
  obtain ⟨p0, p1, p2, p3, p4, p5, p6⟩ := HB0.out.2.of HB1.out (by omega)
  go_wp2_with (fail)
  refine (HH.out _ (HW1.out.alloc HW1.out.size _) ⟨W1.heap.size, 0, none⟩ 1 (Nat.le_refl _) ?_ ?_ ?_ ?_ ?_ ?_ ?_).mono ?_
  any_goals (rw [Lib.addr_add, cell_heap (heap_alloc_new _ _)]; rfl)
  rintro e W3 ⟨rfl, hB3⟩
  have hs1 := HB1.out.size
  have HB3 := Lib.hid ((HB1.out.alloc hs1 (.cells #[.int .i64 V.f0, x1, x2, x3, x4, x5, x6] 28)).trans (hB3.mono (by simp; omega)))
  have HW3 := Lib.hid ((HW1.out.alloc HW1.out.size (.cells #[.int .i64 V.f0, x1, x2, x3, x4, x5, x6] 28)).trans (hB3.mono (by have := HW1.out.size; simp; omega)))
  clear hB3 p0 p1 p2 p3 p4 p5 p6
  cases hheavy : heavyV V
  case true =>
    go_wp2_with (go_at_call 16; refine (hk.out _).mono ?_; rintro e w' ⟨rfl, hb⟩)
    go_ret
    exact ⟨rfl, HW3.out.trans (hb.mono HW3.out.size)⟩
  have ht := heavyV_tot hheavy
  by_cases hm2 : sv.length ≤ 65536
  case neg =>
    have hm2' : ¬ ((sv.length : Int) ≤ 65536) := by omega
    go_wp2_with (go_at_call 16; refine (hk.out _).mono ?_; rintro e w' ⟨rfl, hb⟩)
    go_ret
    exact ⟨rfl, HW3.out.trans (hb.mono HW3.out.size)⟩
  have hm2' : (sv.length : Int) ≤ 65536 := by omega
  obtain ⟨p0, p1, p2, p3, p4, p5, p6⟩ := HB0.out.2.of HB3.out (by omega)
  go_wp2_with (fail)
  refine (HR.out W3 HW3.out).mono ?_
  rintro e W4 ⟨rfl, hB4⟩
  have HB4 := Lib.hid (HB3.out.trans (hB4.mono HB3.out.size))
  have HW4 := Lib.hid (HW3.out.trans (hB4.mono HW3.out.size))
  clear hB4 p0 p1 p2 p3 p4 p5 p6
  cases hright : rightV V
  case false =>
    go_wp2_with (go_at_call 16; refine (hk.out _).mono ?_; rintro e w' ⟨rfl, hb⟩)
    go_ret
    exact ⟨rfl, HW4.out.trans (hb.mono HW4.out.size)⟩
  obtain ⟨q0, q1, q2, q3, q4, q5, q6⟩ := HB0.out.1.of HB4.out (by omega)
  go_wp2_with (fail)
  refine (HWD.out W4).mono ?_
  rintro e W5 ⟨rfl, hB5⟩
  have HB5 := Lib.hid (HB4.out.trans (hB5.mono HB4.out.size))
  have HW5 := Lib.hid (HW4.out.trans (hB5.mono HW4.out.size))
  clear hB5 q0 q1 q2 q3 q4 q5 q6
  by_cases hbw : bw = false
  case pos =>
    subst hbw
    go_wp2_with (go_at_call 16; refine (hk.out _).mono ?_; rintro e w' ⟨rfl, hb⟩)
    go_ret
    exact ⟨rfl, HW5.out.trans (hb.mono HW5.out.size)⟩
  obtain rfl : bw = true := by simpa using hbw
  clear hbw
  obtain ⟨hm, hc⟩ := wide_of HBW.out |>.symm |> fun h => And.intro h.2 h.1
  obtain ⟨P, hP⟩ : ∃ P, bits .and .i64 proto 1 = P := ⟨_, rfl⟩
  have hP01 : P = 0 ∨ P = 1 := by rw [← hP]; exact and1 proto
  have f0 : W5.frozen? ⟨w.heap.size, 0, none⟩ = false := by
    rw [HB5.out.frozen (show w.heap.size < W0.heap.size by omega)]
    exact HF0.out
  have hwV := tot_wf V hV (by omega)
  have hen := enc_right P (cfgOf plain rb sb ms ct fr) V hright hwV (by omega)
  have HPT := Lib.hid (fun W hB => HP.out hwV P W hB (by have := costs_ops V; omega) (by rw [hen]))
  rw [hen] at HPT
  have hbx : Box7 w.heap.size (.int .i64 P) (.bool plain) (.bool rb) (.bool sb) (.int .i32 ms) (.int .i32 ct) (.int .i32 fr) (W5.setCell ⟨w.heap.size, 0, none⟩ (.int .i64 P)) := (HB0.out.1.of HB5.out (by omega)).proto _
  have hby : Box7 (w.heap.size + 1) (.int .i64 V.f0) x1 x2 x3 x4 x5 x6 (W5.setCell ⟨w.heap.size, 0, none⟩ (.int .i64 P)) := (HB0.out.2.of HB5.out (by omega)).other (by omega) _ _
  obtain ⟨q0, q1, q2, q3, q4, q5, q6⟩ := HB0.out.1.of HB5.out (by omega)
  obtain ⟨p0, p1, p2, p3, p4, p5, p6⟩ := HB0.out.2.of HB5.out (by omega)
  have hs5 := HB5.out.size
  clear HP hen
  go_wp2_with (fail)
  obtain ⟨Wa, hWa⟩ : ∃ Wa, Wa = W5.setCell ⟨w.heap.size, 0, none⟩ (.int .i64 P) := ⟨_, rfl⟩
  have HWa := Lib.hid (show Below w.heap.size w Wa from by rw [hWa]; exact HW5.out.setCell (Nat.le_refl _) _)
  have hsa : w.heap.size + 1 + 1 ≤ Wa.heap.size := by rw [hWa]; simp; omega
  rw [← hWa] at hbx hby ⊢
  have HX := Lib.hid hbx
  have HY := Lib.hid hby
  clear hWa hbx hby q0 q1 q2 q3 q4 q5 q6 p0 p1 p2 p3 p4 p5 p6 f0
  refine (HPT.out Wa HWa.out).mono ?_
  rintro e W6 ⟨v, k, rfl, hk6, hi6, hB6⟩
  have HW6 := Lib.hid (HWa.out.trans (hB6.mono HWa.out.size))
  have hs6 := hB6.size
  have HX6 := Lib.hid (HX.out.of hB6 (by omega))
  have HY6 := Lib.hid (HY.out.of hB6 (by omega))
  obtain ⟨ao, cb, rfl, hcb, hCb⟩ := hi6.ints
  have HCb := Lib.hid hCb
  clear hB6 hi6 hk6 hCb
  obtain ⟨p0, p1, p2, p3, p4, p5, p6⟩ := HX6.out
  obtain ⟨q0, q1, q2, q3, q4, q5, q6⟩ := HY6.out
  have hlt6a : w.heap.size < W6.heap.size := by omega
  have hlt6b : w.heap.size + 1 < W6.heap.size := by omega
  have hgl : (gen (codec P) V).length ≤ 7000000 := by
    have h1 := enc_len P (cfgOf plain rb sb ms ct fr) (ops V)
    have h2 := costs_ops V
    rw [enc_right P (cfgOf plain rb sb ms ct fr) V hright hwV (by omega)] at h1
    dsimp only at h1
    omega
  have HJ := Lib.hid (fun W blk (hB : Below W6.heap.size W6 W) (h0 : W.cell? ⟨blk, 0, none⟩ = some (.slice ao (ints (gen (codec P) V)).length cb)) (h1 : W.cell? ⟨blk, 1, none⟩ = some (.slice A sv.length ca)) => joined_any (W := W) blk 2 [ints (gen (codec P) V), sv] (by simp) (by simp) (by simp) (by simp [ints_length]; omega) (fun j p hj => by
    match j, hj with
    | 0, hj => simp only [List.getElem?_cons_zero, Option.some.injEq] at hj; subst hj; exact ⟨_, _, h0, hcb, Kd.C_below HCb.out hB⟩
    | 1, hj => simp only [List.getElem?_cons_succ, List.getElem?_cons_zero, Option.some.injEq] at hj; subst hj; exact ⟨_, _, h1, hcapA, Kd.C_below hA (HW6.out.trans (hB.mono HW6.out.size))⟩
    | j + 2, hj => simp at hj))
  have HPS := Lib.hid (fun W (hB : Below W6.heap.size W6 W) => show W.cell? ⟨w.heap.size, 0, none⟩ = some (.int .i64 P) ∧ W.cell? ⟨w.heap.size, 1, none⟩ = some (.bool plain) ∧ W.cell? ⟨w.heap.size, 2, none⟩ = some (.bool rb) ∧ W.cell? ⟨w.heap.size, 3, none⟩ = some (.bool sb) ∧ W.cell? ⟨w.heap.size, 4, none⟩ = some (.int .i32 ms) ∧ W.cell? ⟨w.heap.size, 5, none⟩ = some (.int .i32 ct) ∧ W.cell? ⟨w.heap.size, 6, none⟩ = some (.int .i32 fr) ∧ W.cell? ⟨w.heap.size + 1, 0, none⟩ = some (.int .i64 V.f0) from by
    obtain ⟨p0, p1, p2, p3, p4, p5, p6⟩ := HX6.out.of hB (by omega)
    obtain ⟨q0, q1, q2, q3, q4, q5, q6⟩ := HY6.out.of hB (by omega)
    exact ⟨p0, p1, p2, p3, p4, p5, p6, q0⟩)
  obtain ⟨ys, hys⟩ : ∃ ys : List Int, [ints (gen (codec P) V), sv].flatten = ys := ⟨_, rfl⟩
  have hysB : toB ys = gen (codec P) V ++ toB sv := by
    rw [← hys]
    have := toB_ints (gen (codec P) V)
    unfold toB at this ⊢
    simp [this]
  have hys8 : ∀ x ∈ ys, 0 ≤ x ∧ x < 256 := by
    rw [← hys]
    intro x hx
    simp only [List.flatten_cons, List.flatten_nil, List.append_nil, List.mem_append] at hx
    rcases hx with hx | hx
    · exact ints_ok _ x hx
    · exact h8 x hx
  have hysl : ys.length ≤ 140737488355328 := by
    rw [← hys]
    simp [ints_length]
    omega
  rw [hys] at HJ
  have HEO := Lib.hid (fun W (hB : Below W6.heap.size W6 W) => HE.out.below (HW6.out.trans (hB.mono HW6.out.size)) HE.out.lt)
  obtain ⟨kk, st', rest, hst, hk0, hk1⟩ := skip64 P hP01 plain rb sb ms ct fr hc hm V hright hwV (by omega) ys (toB sv) hysB
  have HRD := Lib.hid (fun W D cd b (hEW : EofAt W) (hD : (Kd.int .u8).C W D ys.length ys) hb hbl => Read_G P plain rb sb ms ct fr hf32 22 V.f0 0 0 0 0 none 0 0 D cd ys b W hEW hD hys8 (xs_pos hright hysB) hysl hb hbl (skip_step P plain rb sb ms ct fr V hright ys hst))
  have HDD := Lib.hid (fun W hB => deepness_any hV (by omega) HK.out W hB)
  clear hys hys8 hysB hst h8
  go_wp2_with (fail)
  go_region_held3 (fun W' => W'.cell? ⟨w.heap.size, 0, none⟩ = some (.int .i64 P) ∧ W'.cell? ⟨w.heap.size, 1, none⟩ = some (.bool plain) ∧ W'.cell? ⟨w.heap.size, 2, none⟩ = some (.bool rb) ∧ W'.cell? ⟨w.heap.size, 3, none⟩ = some (.bool sb) ∧ W'.cell? ⟨w.heap.size, 4, none⟩ = some (.int .i32 ms) ∧ W'.cell? ⟨w.heap.size, 5, none⟩ = some (.int .i32 ct) ∧ W'.cell? ⟨w.heap.size, 6, none⟩ = some (.int .i32 fr) ∧ W'.cell? ⟨w.heap.size + 1, 0, none⟩ = some (.int .i64 V.f0)) (first | exact ⟨p0, p1, p2, p3, p4, p5, p6, q0⟩ | (simp [go_sem, *]; done) | exact HPS.out _ HB8.out | exact HPS.out _ HB7.out | exact HPS.out _ (HB7.out.alloc HB7.out.size _))
    (first
      | (go_at_call 22; refine (HJ.out _ _ (by repeat (first | (with_reducible exact Below.refl _ _) | (with_reducible refine Below.drew ?_) | (with_reducible refine Below.alloc ?_ (by simp <;> omega) _))) (by simp [go_sem]) (by simp [go_sem])).mono ?_; rintro e W7 ⟨v7, rfl, hR7, hB7⟩; obtain ⟨D, cd, rfl, hcd, hCd⟩ := Kd.R_reads hR7; have HRW := Lib.hid hB7; have HB7 := Lib.hid ((show Below W6.heap.size W6 _ from (by repeat (first | (with_reducible exact Below.refl _ _) | (with_reducible refine Below.drew ?_) | (with_reducible refine Below.alloc ?_ (by simp <;> omega) _)))).trans (hB7.mono (by simp <;> omega))); have HCD := Lib.hid hCd; clear hR7 hB7 hCd)
      | (go_at_call 21; with_reducible refine (HRD.out _ D cd _ (HEO.out _ (HB7.out.alloc HB7.out.size _)) (Kd.C_below HCD.out ((Below.refl _ W7).alloc (Nat.le_refl _) _)) (Box7.at_ (heap_alloc_new _ _)) (by simp)).mono ?_; rintro e W8 ⟨q8, cap8, v8, kb8, rfl, hG8, hv8, hB8⟩; have HB8 := Lib.hid ((HB7.out.alloc HB7.out.size _).trans (hB8.mono (by have := HB7.out.size; simp <;> omega))); have HG8 := Lib.hid hG8; clear hG8 hv8 hB8)
      | (go_at_call 21; with_reducible refine (HRD.out _ D cd _ (HEO.out _ HB7.out) HCD.out ?_ ?_).mono ?_; (first | exact Box7.at_ ((HRW.out.block _ (two_drew W6 _ _)).trans (two_drew_at W6 _ _)) | exact Box7.at_ ((HRW.out.block _ (two_drew0 W6 _ _)).trans (two_drew_at0 W6 _ _))); (first | exact Nat.lt_of_lt_of_le (two_drew W6 _ _) HRW.out.size | exact Nat.lt_of_lt_of_le (two_drew0 W6 _ _) HRW.out.size); rintro e W8 ⟨q8, cap8, v8, kb8, rfl, hG8, hv8, hB8⟩; have HB8 := Lib.hid (HB7.out.trans (hB8.mono HB7.out.size)); have HG8 := Lib.hid hG8; clear hG8 hv8 hB8))
  all_goals (
    have hs8 := HB8.out.size
    obtain ⟨s0, s1, s2, s3, s4, s5, s6⟩ := HY6.out.of HB8.out (by omega)
    obtain ⟨g0, -, -, -, -, -, -⟩ := HG8.out
    have hq8l := World.block_lt_of_cell? W8 _ g0
    dsimp only at hq8l
    have HW8 := Lib.hid (HW6.out.trans (HB8.out.mono HW6.out.size))
    go_wp2_with (fail)
    refine (HDD.out W8 HW8.out).mono ?_
    rintro e W9 ⟨rfl, hB9⟩
    have HW9 := Lib.hid (HW8.out.trans (hB9.mono HW8.out.size))
    have g9 := (hB9.cell (p := ⟨q8, 0, none⟩) hq8l).trans g0
    clear hB9 s0 s1 s2 s3 s4 s5 s6 g0
    by_cases hd : deepV V ≤ 64
    case pos =>
      obtain ⟨rfl, rfl⟩ := hk0 hd
      have hd' : ¬ (64 : Int) < (deepV V : Nat) := by omega
      have hsl : ((toB sv).length : Int) = sv.length := by simp [toB]
      go_wp2_with (go_at_call 16; refine (hk.out _).mono ?_; rintro e w' ⟨rfl, hb⟩)
      go_ret
      exact ⟨rfl, HW9.out.trans (hb.mono HW9.out.size)⟩
    case neg =>
      obtain rfl := hk1 (by omega)
      have hd' : (64 : Int) < (deepV V : Nat) := by omega
      go_wp2_with (go_at_call 16; refine (hk.out _).mono ?_; rintro e w' ⟨rfl, hb⟩)
      go_ret
      exact ⟨rfl, HW9.out.trans (hb.mono HW9.out.size)⟩)

end Go.Proofs.YtmjcnomgpikncaaGreatDoor

/- The walk of FnNoneBegins. -/
import Derived.Test.YtnpiheoglilcbaaGreatDoorMk
import Derived.Test.YtnpiheoglilcbaaGreatDoorMg
import Derived.Test.YtnpiheoglilcbaaGreatDoorMl
import Derived.Test.YtnpiheoglilcbaaGreatDoorMb
namespace Go.Proofs.YtnpiheoglilcbaaGreatDoor
open Go.RowKit Go.Deep Go.Proofs.YtnpiheoglilcbaaGreatDoorW.PrintWords
set_option linter.unusedVariables false
set_option linter.unusedSimpArgs false

set_option maxRecDepth 100000 in
set_option maxHeartbeats 1000000 in
theorem fnNoneBegins_walk (proto : Int) (plain rb sb : Bool) (ms ct fr : Int) (x0 x1 x2 x3 x4 x5 x6 : Value) (V : Val) (y0 y1 y2 y3 y4 y5 y6 : Value) (U : Val) (w : World) (hf : (Lit.int .i64 proto).wf = true ∧ (Lit.int .i32 ms).wf = true ∧ (Lit.int .i32 ct).wf = true ∧ (Lit.int .i32 fr).wf = true)
    (hK : kVal.K w V [x0, x1, x2, x3, x4, x5, x6]) (hV : okV V) (hL : kVal.K w U [y0, y1, y2, y3, y4, y5, y6]) (hU : okV U) :
    Calls Tryz.prog 4 #[confV proto plain rb sb ms ct fr, .agg #[x0, x1, x2, x3, x4, x5, x6], .agg #[y0, y1, y2, y3, y4, y5, y6]] w fun e w' => e = .returned (.bool true) ∧ Below w.heap.size w w' := by
  have hx0 : x0 = .int .i64 V.f0 := by
    obtain ⟨A2, c2, A5, c5, A6, c6, he, -⟩ := kVal_open hK
    simp only [List.cons.injEq, and_true] at he
    exact he.1
  have hy0 : y0 = .int .i64 U.f0 := by
    obtain ⟨A2, c2, A5, c5, A6, c6, he, -⟩ := kVal_open hL
    simp only [List.cons.injEq, and_true] at he
    exact he.1
  subst hx0 hy0
  have hk := Lib.hid known_any
  have HF := Lib.hid (fun W hB => fits_any hK W hB)
  have HG := Lib.hid (fun W hB => fits_any hL W hB)
  have HH := Lib.hid (fun W hB A c => heavy2_any hV hU hK hL W hB A c)
  have HR := Lib.hid (fun W hB => right_any hV hK W hB)
  have HQ := Lib.hid (fun W hB => right_any hU hL W hB)
  have HP := Lib.hid (fun hw n W hB hr h0 => Put_C V hw n plain rb sb ms ct fr _ x1 x2 x3 x4 x5 x6 W (kVal.K_below hB hK) hr h0)
  have HO := Lib.hid (fun hw n W hB hr h0 => Put_C U hw n plain rb sb ms ct fr _ y1 y2 y3 y4 y5 y6 W (kVal.K_below hB hL) hr h0)
  clear hK hL
  go_enter Tryz.func4, Tryz.ntmps4
  go_wp2_with (fail)
  obtain ⟨W0, hW0⟩ : ∃ W0, W0 = ((w.alloc (.cells #[.int .i64 proto, .bool plain, .bool rb, .bool sb, .int .i32 ms, .int .i32 ct, .int .i32 fr] 23)).alloc (.cells #[.int .i64 V.f0, x1, x2, x3, x4, x5, x6] 28)).alloc (.cells #[.int .i64 U.f0, y1, y2, y3, y4, y5, y6] 28) := ⟨_, rfl⟩
  have hsz : W0.heap.size = w.heap.size + 1 + 1 + 1 := by rw [hW0]; simp
  have B0 : Box7 w.heap.size (.int .i64 proto) (.bool plain) (.bool rb) (.bool sb) (.int .i32 ms) (.int .i32 ct) (.int .i32 fr) W0 := by
    rw [hW0]; exact Box7.at_ (heap_alloc_old (heap_alloc_old (heap_alloc_new w _) _) _)
  have B1 : Box7 (w.heap.size + 1) (.int .i64 V.f0) x1 x2 x3 x4 x5 x6 W0 := by
    rw [hW0]; exact Box7.at_ (heap_alloc_old (heap_alloc_at (by simp) _) _)
  have B2 : Box7 (w.heap.size + 1 + 1) (.int .i64 U.f0) y1 y2 y3 y4 y5 y6 W0 := by
    rw [hW0]; exact Box7.at_ (heap_alloc_at (by simp) _)
  have F0 : W0.frozen? ⟨w.heap.size, 0, none⟩ = false := by
    rw [hW0]; exact frozen_heap (heap_alloc_old (heap_alloc_old (heap_alloc_new w _) _) _) 0
  have HW0 := Lib.hid (show Below w.heap.size w W0 from by rw [hW0]; exact (((Below.refl _ w).alloc (Nat.le_refl _) _).alloc (by simp) _).alloc (by simp; omega) _)
  rw [← hW0]
  have HB0 := Lib.hid (show Box7 w.heap.size (.int .i64 proto) (.bool plain) (.bool rb) (.bool sb) (.int .i32 ms) (.int .i32 ct) (.int .i32 fr) W0 ∧ Box7 (w.heap.size + 1) (.int .i64 V.f0) x1 x2 x3 x4 x5 x6 W0 ∧ Box7 (w.heap.size + 1 + 1) (.int .i64 U.f0) y1 y2 y3 y4 y5 y6 W0 from ⟨B0, B1, B2⟩)
  have HF0 := Lib.hid F0
  clear hW0 B0 B1 B2 F0
  refine (HF.out _ HW0.out).mono ?_
  rintro e W1 ⟨rfl, hB1⟩
  have HB1 := Lib.hid hB1
  have HW1 := Lib.hid (HW0.out.trans (hB1.mono HW0.out.size))
  clear hB1
  cases hfit : fitsV V
  · go_wp2_with (fail)
    go_ret
    exact ⟨rfl, HW1.out⟩
  obtain ⟨q0, q1, q2, q3, q4, q5, q6⟩ := HB0.out.2.2.of HB1.out (by omega)
  go_wp2_with (fail)
  refine (HG.out _ HW1.out).mono ?_
  rintro e W2 ⟨rfl, hB2⟩
  have HB2 := Lib.hid (HB1.out.trans (hB2.mono HB1.out.size))
  have HW2 := Lib.hid (HW1.out.trans (hB2.mono HW1.out.size))
  clear hB2 q0 q1 q2 q3 q4 q5 q6
  cases hfit2 : fitsV U
  · go_wp2_with (fail)
    go_ret
    exact ⟨rfl, HW2.out⟩
  obtain ⟨q0, q1, q2, q3, q4, q5, q6⟩ := HB0.out.2.2.of HB2.out (by omega)
  obtain ⟨p0, p1, p2, p3, p4, p5, p6⟩ := HB0.out.2.1.of HB2.out (by omega)
  go_wp2_with (fail)
  refine (HH.out _ (HW2.out.alloc HW2.out.size _) ⟨W2.heap.size, 0, none⟩ 2 (Nat.le_refl _) (fun j v hj => by rw [Lib.addr_add, cell_heap (heap_alloc_new _ _), Nat.zero_add]; simpa using hj)).mono ?_
  rintro e W3 ⟨rfl, hB3⟩
  have hs2 := HB2.out.size
  have HB3 := Lib.hid ((HB2.out.alloc hs2 (.cells #[.int .i64 V.f0, x1, x2, x3, x4, x5, x6, .int .i64 U.f0, y1, y2, y3, y4, y5, y6] 28)).trans (hB3.mono (by simp; omega)))
  have HW3 := Lib.hid ((HW2.out.alloc HW2.out.size (.cells #[.int .i64 V.f0, x1, x2, x3, x4, x5, x6, .int .i64 U.f0, y1, y2, y3, y4, y5, y6] 28)).trans (hB3.mono (by have := HW2.out.size; simp; omega)))
  clear hB3 q0 q1 q2 q3 q4 q5 q6 p0 p1 p2 p3 p4 p5 p6
  cases hheavy : heavy2V V U
  case true =>
    go_wp2_with (go_at_call 11; refine (hk.out _).mono ?_; rintro e w' ⟨rfl, hb⟩)
    go_ret
    exact ⟨rfl, HW3.out.trans (hb.mono HW3.out.size)⟩
  have ht := heavy2V_tot hheavy
  obtain ⟨p0, p1, p2, p3, p4, p5, p6⟩ := HB0.out.2.1.of HB3.out (by omega)
  go_wp2_with (fail)
  refine (HR.out W3 HW3.out).mono ?_
  rintro e W4 ⟨rfl, hB4⟩
  have HB4 := Lib.hid (HB3.out.trans (hB4.mono HB3.out.size))
  have HW4 := Lib.hid (HW3.out.trans (hB4.mono HW3.out.size))
  clear hB4 p0 p1 p2 p3 p4 p5 p6
  cases hright : rightV V
  case false =>
    go_wp2_with (go_at_call 11; refine (hk.out _).mono ?_; rintro e w' ⟨rfl, hb⟩)
    go_ret
    exact ⟨rfl, HW4.out.trans (hb.mono HW4.out.size)⟩
  obtain ⟨q0, q1, q2, q3, q4, q5, q6⟩ := HB0.out.2.2.of HB4.out (by omega)
  go_wp2_with (fail)
  refine (HQ.out W4 HW4.out).mono ?_
  rintro e W5 ⟨rfl, hB5⟩
  have HB5 := Lib.hid (HB4.out.trans (hB5.mono HB4.out.size))
  have HW5 := Lib.hid (HW4.out.trans (hB5.mono HW4.out.size))
  clear hB5 q0 q1 q2 q3 q4 q5 q6
  cases hright2 : rightV U
  case false =>
    go_wp2_with (go_at_call 11; refine (hk.out _).mono ?_; rintro e w' ⟨rfl, hb⟩)
    go_ret
    exact ⟨rfl, HW5.out.trans (hb.mono HW5.out.size)⟩
  have hB05 := HB0.out
  obtain ⟨q0, q1, q2, q3, q4, q5, q6⟩ := hB05.2.2.of HB5.out (by omega)
  obtain ⟨p0, p1, p2, p3, p4, p5, p6⟩ := hB05.2.1.of HB5.out (by omega)
  obtain ⟨c0, c1, c2, c3, c4, c5, c6⟩ := hB05.1.of HB5.out (by omega)
  clear hB05
  by_cases hT : V.f0 = U.f0
  case neg =>
    have hT1 : (V.f0 == U.f0) = false := by simpa using hT
    have hT2 : (V.f0 != U.f0) = true := by simpa using hT
    go_wp2_with (go_at_call 11; refine (hk.out _).mono ?_; rintro e w' ⟨rfl, hb⟩)
    go_ret
    exact ⟨rfl, HW5.out.trans (hb.mono HW5.out.size)⟩
  obtain ⟨P, hP⟩ : ∃ P, bits .and .i64 proto 1 = P := ⟨_, rfl⟩
  have f0 : W5.frozen? ⟨w.heap.size, 0, none⟩ = false := by
    rw [HB5.out.frozen (show w.heap.size < W0.heap.size by omega)]
    exact HF0.out
  have hwV := tot_wf V hV (by omega)
  have hwU := tot_wf U hU (by omega)
  have HPT := Lib.hid (fun W hB => HP.out hwV P W hB (by have := costs_ops V; omega) (by rw [enc_right P _ V hright hwV (by omega)]))
  have HOT := Lib.hid (fun W hB => HO.out hwU P W hB (by have := costs_ops U; omega) (by rw [enc_right P _ U hright2 hwU (by omega)]))
  have hnone := gen_none (codec P) (codec_told P) V U hright (by omega) hright2 (by omega) hT
  have HNONE := Lib.hid hnone
  have eV := enc_right P (cfgOf plain rb sb ms ct fr) V hright hwV (by omega)
  have eU := enc_right P (cfgOf plain rb sb ms ct fr) U hright2 hwU (by omega)
  rw [eV] at HPT
  rw [eU] at HOT
  have hbx : Box7 w.heap.size (.int .i64 P) (.bool plain) (.bool rb) (.bool sb) (.int .i32 ms) (.int .i32 ct) (.int .i32 fr) (W5.setCell ⟨w.heap.size, 0, none⟩ (.int .i64 P)) := (HB0.out.1.of HB5.out (by omega)).proto _
  have hby : Box7 (w.heap.size + 1 + 1) (.int .i64 U.f0) y1 y2 y3 y4 y5 y6 (W5.setCell ⟨w.heap.size, 0, none⟩ (.int .i64 P)) := (HB0.out.2.2.of HB5.out (by omega)).other (by omega) _ _
  have hs5 := HB5.out.size
  clear HP HO hnone eV eU
  have hT1 : (V.f0 == U.f0) = true := by simpa using hT
  have hT2 : (V.f0 != U.f0) = false := by simpa using hT
  clear hT
  go_wp2_with (fail)
  obtain ⟨Wa, hWa⟩ : ∃ Wa, Wa = W5.setCell ⟨w.heap.size, 0, none⟩ (.int .i64 P) := ⟨_, rfl⟩
  have HWa := Lib.hid (show Below w.heap.size w Wa from by rw [hWa]; exact HW5.out.setCell (Nat.le_refl _) _)
  have hsa : w.heap.size + 1 + 1 + 1 ≤ Wa.heap.size := by rw [hWa]; simp; omega
  rw [← hWa] at hbx hby ⊢
  have HX := Lib.hid hbx
  have HY := Lib.hid hby
  clear hWa hbx hby p0 p1 p2 p3 p4 p5 p6 q0 q1 q2 q3 q4 q5 q6 c0 c1 c2 c3 c4 c5 c6 f0
  refine (HPT.out Wa HWa.out).mono ?_
  rintro e W6 ⟨v, k, rfl, hk6, hi6, hB6⟩
  have HW6 := Lib.hid (HWa.out.trans (hB6.mono HWa.out.size))
  have hs6 := hB6.size
  have HX6 := Lib.hid (HX.out.of hB6 (by omega))
  have HY6 := Lib.hid (HY.out.of hB6 (by omega))
  obtain ⟨ao, ca, rfl, hca, hCa⟩ := hi6.ints
  have HCa := Lib.hid hCa
  clear hB6 hi6 hk6 hCa
  obtain ⟨p0, p1, p2, p3, p4, p5, p6⟩ := HX6.out
  obtain ⟨q0, q1, q2, q3, q4, q5, q6⟩ := HY6.out
  go_wp2_with (fail)
  refine (HOT.out W6 HW6.out).mono ?_
  rintro e W7 ⟨v, k, rfl, hk7, hi7, hB7⟩
  have HW7 := Lib.hid (HW6.out.trans (hB7.mono HW6.out.size))
  obtain ⟨bo, cb, rfl, hcb, hCb⟩ := hi7.ints
  have HCb := Lib.hid hCb
  have HCa7 := Lib.hid (Kd.C_below HCa.out hB7)
  clear hB7 hi7 hk7 hCb p0 p1 p2 p3 p4 p5 p6 q0 q1 q2 q3 q4 q5 q6
  obtain ⟨lb, hlb⟩ : ∃ l, gen (codec P) V = l := ⟨_, rfl⟩
  obtain ⟨ld, hld⟩ : ∃ l, gen (codec P) U = l := ⟨_, rfl⟩
  rw [hlb, hld] at HNONE
  rw [hlb] at hca HCa7 ⊢
  rw [hld] at hcb HCb ⊢
  rw [ints_length] at hca hcb
  have hEQ : ∀ W, Below W7.heap.size W7 W → lb.length < ld.length → Calls Tryz.prog 14 #[.slice ao lb.length ca, .slice bo lb.length cb] W fun e w' => e = .returned (.bool false) ∧ Drawn0 W w' := fun W hW hlt => by
    have h1 := Kd.C_take (Kd.C_below HCb.out hW) (m := lb.length) (by rw [ints_length]; omega)
    have h2 : (ints ld).take lb.length = ints (ld.take lb.length) := by simp [ints]
    rw [h2] at h1
    have h3 := equal_any (w := W) (Kd.C_below HCa7.out hW) (by rw [ints_length]; exact hca) h1 (d := cb) (by rw [ints_length]; simp; omega)
    rw [ints_length, ints_length, List.length_take, Nat.min_eq_left (by omega)] at h3
    rwa [show decide (lb = ld.take lb.length) = false from decide_eq_false (HNONE.out hlt)] at h3
  have HEQ := Lib.hid hEQ
  obtain ⟨n, hn⟩ : ∃ n, lb.length = n := ⟨_, rfl⟩
  obtain ⟨m, hm⟩ : ∃ m, ld.length = m := ⟨_, rfl⟩
  rw [ints_length, ints_length, hn, hm]
  rw [hn, hm] at HEQ
  rw [hn] at hca
  rw [hm] at hcb
  clear hEQ hlb hld HCa HCb HCa7 HNONE HX HY HX6 HY6 hn hm
  by_cases hlt : n < m
  case neg =>
    have hge : (m : Int) ≤ n := by omega
    go_wp2_with (go_at_call 11; refine (hk.out _).mono ?_; rintro e w' ⟨rfl, hb⟩)
    all_goals go_ret
    all_goals exact ⟨rfl, HW7.out.trans (hb.mono HW7.out.size)⟩
  have hge : ¬ (m : Int) ≤ n := by omega
  have hnc : n ≤ cb := by omega
  go_wp2_with (fail)
  refine (HEQ.out W7 (Below.refl _ _) hlt).mono ?_
  rintro e W8 ⟨rfl, hD⟩
  have HW8 := Lib.hid (HW7.out.trans (hD.below.mono HW7.out.size))
  clear hD
  go_wp2_with (go_at_call 11; refine (hk.out _).mono ?_; rintro e w' ⟨rfl, hb⟩)
  all_goals go_ret
  all_goals exact ⟨rfl, HW8.out.trans (hb.mono HW8.out.size)⟩

end Go.Proofs.YtnpiheoglilcbaaGreatDoor

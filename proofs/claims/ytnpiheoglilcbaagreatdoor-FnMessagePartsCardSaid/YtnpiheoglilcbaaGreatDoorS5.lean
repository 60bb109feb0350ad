/- The walk of FnMessageParts. -/
import Derived.Test.YtnpiheoglilcbaaGreatDoorMj
import Derived.Test.YtnpiheoglilcbaaGreatDoorMk
import Derived.Test.YtnpiheoglilcbaaGreatDoorMm
import Derived.Test.YtnpiheoglilcbaaGreatDoorMn
import Derived.Test.YtnpiheoglilcbaaGreatDoorMb
namespace Go.Proofs.YtnpiheoglilcbaaGreatDoor
open Go.RowKit Go.Deep Go.Proofs.YtnpiheoglilcbaaGreatDoorW.PrintWords
set_option linter.unusedVariables false
set_option linter.unusedSimpArgs false

set_option maxRecDepth 100000 in
set_option maxHeartbeats 1000000 in
theorem fnMessageParts_walk (proto : Int) (plain rb sb : Bool) (ms ct fr : Int) (A : Option Addr) (len cap : Nat) (zs : List Int) (kd seq : Int) (x0 x1 x2 x3 x4 x5 x6 : Value) (V : Val) (w : World) (hf : (Lit.int .i64 proto).wf = true ∧ (Lit.int .i32 ms).wf = true ∧ (Lit.int .i32 ct).wf = true ∧ (Lit.int .i32 fr).wf = true)
    (hr : IsRow .u8 w A len cap zs) (hkd : (Lit.int .i64 kd).wf = true) (hq : (Lit.int .i32 seq).wf = true) (hK : kVal.K w V [x0, x1, x2, x3, x4, x5, x6]) (hV : okV V) :
    Calls Tryz.prog 5 #[confV proto plain rb sb ms ct fr, .slice A len cap, .int .i64 kd, .int .i32 seq, .agg #[x0, x1, x2, x3, x4, x5, x6]] w fun e w' => e = .returned (.bool true) ∧ Below w.heap.size w w' := by
  have hx0 : x0 = .int .i64 V.f0 := by
    obtain ⟨A2, c2, A5, c5, A6, c6, he, -⟩ := kVal_open hK
    simp only [List.cons.injEq, and_true] at he
    exact he.1
  subst hx0
  have hseq : -2147483648 ≤ seq ∧ seq < 2147483648 := by
    have h1 : IntKind.i32.min ≤ seq ∧ seq ≤ IntKind.i32.max := by simpa [Lit.wf] using hq
    have e1 : IntKind.i32.min = -2147483648 := by decide
    have e2 : IntKind.i32.max = 2147483647 := by decide
    omega
  obtain ⟨nm, rfl, hA, h8⟩ := row_bytes hr
  have hk := Lib.hid known_any
  have HF := Lib.hid (fun W hB => fits_any hK W hB)
  have HH := Lib.hid (fun W hB A c => heavy_any hV hK W hB A c)
  have HR := Lib.hid (fun W hB => right_any hV hK W hB)
  have HP := Lib.hid (fun hw n k W hB hn hr h0 => PutMessage_C V hw n plain rb sb ms ct fr A cap nm k seq _ x1 x2 x3 x4 x5 x6 W (kVal.K_below hB hK) (Kd.C_below hA hB) hn hseq hr h0)
  have HWR := Lib.hid (fun n k W b (hB : Below w.heap.size w W) hn hb hbl h0 => Write_C n plain rb sb ms ct fr k seq 0 0 0 A cap nm W b (Kd.C_below hA hB) hn hb hbl h0)
  have HO := Lib.hid (fun hw n W hB hr h0 => Put_C V hw n plain rb sb ms ct fr _ x1 x2 x3 x4 x5 x6 W (kVal.K_below hB hK) hr h0)
  clear hK hA hr
  by_cases hlen : nm.length ≤ 2147483647
  case neg =>
    have hlen' : ¬ ((nm.length : Int) ≤ 2147483647) := by omega
    go_enter Tryz.func5, Tryz.ntmps5
    go_wp2_with (fail)
    go_ret
    exact ⟨rfl, ((Below.refl _ w).alloc (Nat.le_refl _) _).alloc (by simp) _⟩
  have hlen' : (nm.length : Int) ≤ 2147483647 := by omega
  go_enter Tryz.func5, Tryz.ntmps5
  go_wp2_with (fail)
  obtain ⟨W0, hW0⟩ : ∃ W0, W0 = (w.alloc (.cells #[.int .i64 proto, .bool plain, .bool rb, .bool sb, .int .i32 ms, .int .i32 ct, .int .i32 fr] 23)).alloc (.cells #[.int .i64 V.f0, x1, x2, x3, x4, x5, x6] 28) := ⟨_, rfl⟩
  have hsz : W0.heap.size = w.heap.size + 1 + 1 := by rw [hW0]; simp
  have B0 : Box7 w.heap.size (.int .i64 proto) (.bool plain) (.bool rb) (.bool sb) (.int .i32 ms) (.int .i32 ct) (.int .i32 fr) W0 := by
    rw [hW0]; exact Box7.at_ (heap_alloc_old (heap_alloc_new w _) _)
  have B1 : Box7 (w.heap.size + 1) (.int .i64 V.f0) x1 x2 x3 x4 x5 x6 W0 := by
    rw [hW0]; exact Box7.at_ (heap_alloc_at (by simp) _)
  have F0 : W0.frozen? ⟨w.heap.size, 0, none⟩ = false := by
    rw [hW0]; exact frozen_heap (heap_alloc_old (heap_alloc_new w _) _) 0
  have HW0 := Lib.hid (show Below w.heap.size w W0 from by rw [hW0]; exact ((Below.refl _ w).alloc (Nat.le_refl _) _).alloc (by simp) _)
  rw [← hW0]
  have HB0 := Lib.hid (show Box7 w.heap.size (.int .i64 proto) (.bool plain) (.bool rb) (.bool sb) (.int .i32 ms) (.int .i32 ct) (.int .i32 fr) W0 ∧ Box7 (w.heap.size + 1) (.int .i64 V.f0) x1 x2 x3 x4 x5 x6 W0 from ⟨B0, B1⟩)
  have HF0 := Lib.hid F0
  clear hW0 B0 B1 F0
  refine (HF.out _ HW0.out).mono ?_
  rintro e W1 ⟨rfl, hB1⟩
  have HB1 := Lib.hid hB1
  have HW1 := Lib.hid (HW0.out.trans (hB1.mono HW0.out.size))
  clear hB1
  cases hfit : fitsV V
  · go_wp2_with (fail)
    go_ret
    exact ⟨rfl, HW1.out⟩
  obtain ⟨p0, p1, p2, p3, p4, p5, p6⟩ := HB0.out.2.of HB1.out (by omega)
  go_wp2_with (fail)
  refine (HH.out _ (HW1.out.alloc HW1.out.size _) ⟨W1.heap.size, 0, none⟩ 1 (Nat.le_refl _) ((cell_heap (heap_alloc_new _ _) 0).trans rfl) ((cell_heap (heap_alloc_new _ _) 1).trans rfl) ((cell_heap (heap_alloc_new _ _) 2).trans rfl) ((cell_heap (heap_alloc_new _ _) 3).trans rfl) ((cell_heap (heap_alloc_new _ _) 4).trans rfl) ((cell_heap (heap_alloc_new _ _) 5).trans rfl) ((cell_heap (heap_alloc_new _ _) 6).trans rfl)).mono ?_
  rintro e W3 ⟨rfl, hB3⟩
  have hs1 := HB1.out.size
  have HB3 := Lib.hid ((HB1.out.alloc hs1 (.cells #[.int .i64 V.f0, x1, x2, x3, x4, x5, x6] 28)).trans (hB3.mono (by simp; omega)))
  have HW3 := Lib.hid ((HW1.out.alloc HW1.out.size (.cells #[.int .i64 V.f0, x1, x2, x3, x4, x5, x6] 28)).trans (hB3.mono (by have := HW1.out.size; simp; omega)))
  clear hB3 p0 p1 p2 p3 p4 p5 p6
  cases hheavy : heavyV V
  case true =>
    go_wp2_with (go_at_call 11; refine (hk.out _).mono ?_; rintro e w' ⟨rfl, hb⟩)
    go_ret
    exact ⟨rfl, HW3.out.trans (hb.mono HW3.out.size)⟩
  have ht := heavyV_tot hheavy
  by_cases hm : nm.length ≤ 65536
  case neg =>
    have hm' : ¬ ((nm.length : Int) ≤ 65536) := by omega
    go_wp2_with (go_at_call 11; refine (hk.out _).mono ?_; rintro e w' ⟨rfl, hb⟩)
    go_ret
    exact ⟨rfl, HW3.out.trans (hb.mono HW3.out.size)⟩
  have hm' : (nm.length : Int) ≤ 65536 := by omega
  obtain ⟨p0, p1, p2, p3, p4, p5, p6⟩ := HB0.out.2.of HB3.out (by omega)
  go_wp2_with (fail)
  refine (HR.out W3 HW3.out).mono ?_
  rintro e W5 ⟨rfl, hB5⟩
  have HB5 := Lib.hid (HB3.out.trans (hB5.mono HB3.out.size))
  have HW5 := Lib.hid (HW3.out.trans (hB5.mono HW3.out.size))
  clear hB5 p0 p1 p2 p3 p4 p5 p6
  cases hright : rightV V
  case false =>
    go_wp2_with (go_at_call 11; refine (hk.out _).mono ?_; rintro e w' ⟨rfl, hb⟩)
    go_ret
    exact ⟨rfl, HW5.out.trans (hb.mono HW5.out.size)⟩
  have hB05 := HB0.out
  obtain ⟨p0, p1, p2, p3, p4, p5, p6⟩ := hB05.2.of HB5.out (by omega)
  obtain ⟨c0, c1, c2, c3, c4, c5, c6⟩ := hB05.1.of HB5.out (by omega)
  clear hB05
  by_cases hT : V.f0 = 12
  case neg =>
    have hT1 : (V.f0 == 12) = false := by simpa using hT
    have hT2 : (V.f0 != 12) = true := by simpa using hT
    go_wp2_with (go_at_call 11; refine (hk.out _).mono ?_; rintro e w' ⟨rfl, hb⟩)
    go_ret
    exact ⟨rfl, HW5.out.trans (hb.mono HW5.out.size)⟩
  obtain ⟨P, hP⟩ : ∃ P, bits .and .i64 proto 1 = P := ⟨_, rfl⟩
  have f0 : W5.frozen? ⟨w.heap.size, 0, none⟩ = false := by
    rw [HB5.out.frozen (show w.heap.size < W0.heap.size by omega)]
    exact HF0.out
  have hwV := tot_wf V hV ht
  obtain ⟨K, hKK⟩ : ∃ K, bits .and .i64 kd 7 = K := ⟨_, rfl⟩
  have hnl : (toB nm).length = nm.length := by simp [toB]
  have hfit2 : (WOp.msgB (toB nm) (wrap32 K) seq).fit := ⟨by rw [hnl]; exact hlen, by unfold wrap32; omega, hseq⟩
  have eM := enc_message P (cfgOf plain rb sb ms ct fr) (toB nm) (wrap32 K) seq V hfit2 hright hwV ht
  have eB := enc_begin P (cfgOf plain rb sb ms ct fr) (toB nm) (wrap32 K) seq hfit2
  have eV := enc_right P (cfgOf plain rb sb ms ct fr) V hright hwV ht
  have hcost : costs (opsM (toB nm) (wrap32 K) seq V) ≤ 70368744177664 := by
    rw [costs_message]
    have := costs_ops V
    omega
  have hws : wrap32 seq = seq := by unfold wrap32; omega
  have HPT := Lib.hid (fun W hB => HP.out hwV P K W hB hlen hcost (by rw [eM]))
  have HWT := Lib.hid (fun W b hB hb hbl => HWR.out P K W b hB hlen hb hbl (by rw [hws]; exact eB))
  have HOT := Lib.hid (fun W hB => HO.out hwV P W hB (by have := costs_ops V; omega) (by rw [eV]))
  rw [eM] at HPT
  rw [hws] at HWT
  rw [eV] at HOT
  obtain ⟨X, hX⟩ : ∃ X, (encC P (cfgOf plain rb sb ms ct fr) [.msgB (toB nm) (wrap32 K) seq]).1 = X := ⟨_, rfl⟩
  obtain ⟨L, hL⟩ : ∃ L, gen (codec P) V = L := ⟨_, rfl⟩
  rw [hX, hL] at HPT
  rw [hX] at HWT
  rw [hL] at HOT
  have hXl : X.length ≤ 1000000 := by
    have h1 := enc_len P (cfgOf plain rb sb ms ct fr) [.msgB (toB nm) (wrap32 K) seq]
    rw [hX, costs_cons, costs_nil] at h1
    simp only [WOp.cost] at h1
    omega
  have hLl : L.length ≤ 100000000 := by
    have h1 := enc_len P (cfgOf plain rb sb ms ct fr) (ops V)
    have h2 := costs_ops V
    rw [eV] at h1
    dsimp only at h1
    rw [hL] at h1
    omega
  have hbx : Box7 w.heap.size (.int .i64 P) (.bool plain) (.bool rb) (.bool sb) (.int .i32 ms) (.int .i32 ct) (.int .i32 fr) (W5.setCell ⟨w.heap.size, 0, none⟩ (.int .i64 P)) := (HB0.out.1.of HB5.out (by omega)).proto _
  have hby : Box7 (w.heap.size + 1) (.int .i64 V.f0) x1 x2 x3 x4 x5 x6 (W5.setCell ⟨w.heap.size, 0, none⟩ (.int .i64 P)) := (HB0.out.2.of HB5.out (by omega)).other (by omega) _ _
  have hs5 := HB5.out.size
  have hT1 : (V.f0 == 12) = true := by simpa using hT
  have hT2 : (V.f0 != 12) = false := by simpa using hT
  clear HP HO HWR eM eB eV hX hL hcost hfit2 hT hws
  go_wp2_with (fail)
  obtain ⟨Wa, hWa⟩ : ∃ Wa, Wa = W5.setCell ⟨w.heap.size, 0, none⟩ (.int .i64 P) := ⟨_, rfl⟩
  have HWa := Lib.hid (show Below w.heap.size w Wa from by rw [hWa]; exact HW5.out.setCell (Nat.le_refl _) _)
  have hsa : w.heap.size + 1 + 1 ≤ Wa.heap.size := by rw [hWa]; simp; omega
  rw [← hWa] at hbx hby ⊢
  have HX := Lib.hid hbx
  have HY := Lib.hid hby
  clear hWa hbx hby p0 p1 p2 p3 p4 p5 p6 c0 c1 c2 c3 c4 c5 c6 f0
  refine (HPT.out Wa HWa.out).mono ?_
  rintro e W6 ⟨v, k, rfl, hk6, hi6, hB6⟩
  have HW6 := Lib.hid (HWa.out.trans (hB6.mono HWa.out.size))
  have hs6 := hB6.size
  have HX6 := Lib.hid (HX.out.of hB6 (by omega))
  have HY6 := Lib.hid (HY.out.of hB6 (by omega))
  obtain ⟨ao, ca, rfl, hca, hCa⟩ := hi6.ints
  have HCa := Lib.hid hCa
  clear hB6 hi6 hk6 hCa
  obtain ⟨p0, p1, p2, p3, p4, p5, p6⟩ := HX6.out
  obtain ⟨q0, q1, q2, q3, q4, q5, q6⟩ := HY6.out
  go_wp2_with (fail)
  refine (HWT.out (W6.alloc _) W6.heap.size (HW6.out.alloc HW6.out.size _) (Box7.at_ (heap_alloc_new _ _)) (by simp)).mono ?_
  rintro e W7 ⟨v, k, q, cq, rfl, hi7, ⟨hq7, hcq⟩, hB7⟩
  have hBB := ((Below.refl W6.heap.size W6).alloc (Nat.le_refl _) (.cells #[.int .i64 0, .int .i64 K, .int .i64 0, .int .i64 0, .int .i64 0, .int .i64 seq, .slice A nm.length cap] 42)).trans (hB7.mono (by simp))
  have HBB := Lib.hid hBB
  have hs7 := hBB.size
  have HW7 := Lib.hid (HW6.out.trans (hBB.mono HW6.out.size))
  have HX7 := Lib.hid (HX6.out.of hBB (by omega))
  have HY7 := Lib.hid (HY6.out.of hBB (by omega))
  obtain ⟨bo, cb, rfl, hcb, hCb⟩ := hi7.ints
  have HCb := Lib.hid hCb
  have HQ7 := Lib.hid hq7
  clear hB7 hi7 hCb hBB hq7 p0 p1 p2 p3 p4 p5 p6 q0 q1 q2 q3 q4 q5 q6
  obtain ⟨p0, p1, p2, p3, p4, p5, p6⟩ := HX7.out
  obtain ⟨q0, q1, q2, q3, q4, q5, q6⟩ := HY7.out
  go_wp2_with (fail)
  refine (HOT.out W7 HW7.out).mono ?_
  rintro e W8 ⟨v, k, rfl, hk8, hi8, hB8⟩
  have HW8 := Lib.hid (HW7.out.trans (hB8.mono HW7.out.size))
  obtain ⟨co, cc, rfl, hcc, hCc⟩ := hi8.ints
  have hql := World.block_lt_of_cell? W7 _ HQ7.out
  have HOK := Lib.hid (isOK_one ((hB8.cell (p := ⟨q, 0, none⟩) hql).trans HQ7.out) hcq)
  have hA8 := Kd.C_below (Kd.C_below HCa.out HBB.out) hB8
  have hB8b := Kd.C_below HCb.out hB8
  have HJ := Lib.hid (fun W g (hW : Below W8.heap.size W8 W) h0 h1 => joined_two (W := W) g 2 (Nat.le_refl _) (Kd.C_below hB8b hW) hcb (Kd.C_below hCc hW) hcc h0 h1 (by omega))
  have HEA := Lib.hid (fun W (hW : Below W8.heap.size W8 W) => Kd.C_below hA8 hW)
  have hca' := hca
  clear hB8 hi8 hk8 hCc hA8 hB8b hql hca hcb hcc hcq p0 p1 p2 p3 p4 p5 p6 q0 q1 q2 q3 q4 q5 q6
  go_wp2_with (fail)
  refine HOK.out.mono ?_
  rintro e W9 ⟨rfl, hD⟩
  have HB9 := Lib.hid hD.below
  have HW9 := Lib.hid (HW8.out.trans (hD.below.mono HW8.out.size))
  clear hD
  go_wp2_with (fail)
  refine (HJ.out (W9.alloc (.cells #[.slice bo (ints X).length cb, .slice co (ints L).length cc] 24)) W9.heap.size (HB9.out.alloc HB9.out.size _) ((cell_heap (heap_alloc_new _ _) 0).trans rfl) ((cell_heap (heap_alloc_new _ _) 1).trans rfl)).mono ?_
  rintro e W10 ⟨v, rfl, hR, hB10⟩
  obtain ⟨D, cd, rfl, hcd, hCd⟩ := Kd.R_reads hR
  have HB10 := Lib.hid ((HB9.out.alloc HB9.out.size (.cells #[.slice bo (ints X).length cb, .slice co (ints L).length cc] 24)).trans (hB10.mono (by have := HB9.out.size; simp; omega)))
  have HW10 := Lib.hid (HW8.out.trans (HB10.out.mono HW8.out.size))
  have hE := equal_any (HEA.out W10 HB10.out) hca' hCd hcd
  rw [show decide (X ++ L = X ++ L) = true by simp] at hE
  have HE := Lib.hid hE
  clear hB10 hR hCd hcd hca' hE
  go_wp2_with (fail)
  refine HE.out.mono ?_
  rintro e W11 ⟨rfl, hD⟩
  have HW11 := Lib.hid (HW10.out.trans (hD.below.mono HW10.out.size))
  clear hD
  go_wp2_with (go_at_call 11; refine (hk.out _).mono ?_; rintro e w' ⟨rfl, hb⟩)
  all_goals go_ret
  all_goals exact ⟨rfl, HW11.out.trans (hb.mono HW11.out.size)⟩

end Go.Proofs.YtnpiheoglilcbaaGreatDoor

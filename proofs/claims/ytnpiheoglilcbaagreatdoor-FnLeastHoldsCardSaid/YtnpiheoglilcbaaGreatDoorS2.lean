/- The walk of FnLeastHolds. -/
import Derived.Test.YtnpiheoglilcbaaGreatDoorMj
import Derived.Test.YtnpiheoglilcbaaGreatDoorMg
import Derived.Test.YtnpiheoglilcbaaGreatDoorMk
import Derived.Test.YtnpiheoglilcbaaGreatDoorMb
namespace Go.Proofs.YtnpiheoglilcbaaGreatDoor
open Go.RowKit Go.Deep Go.Proofs.YtnpiheoglilcbaaGreatDoorW.PrintWords
set_option linter.unusedVariables false
set_option linter.unusedSimpArgs false

set_option maxRecDepth 100000 in
set_option maxHeartbeats 1000000 in
theorem fnLeastHolds_walk (proto : Int) (plain rb sb : Bool) (ms ct fr : Int) (x0 x1 x2 x3 x4 x5 x6 : Value) (V : Val) (w : World) (hf : (Lit.int .i64 proto).wf = true ∧ (Lit.int .i32 ms).wf = true ∧ (Lit.int .i32 ct).wf = true ∧ (Lit.int .i32 fr).wf = true) (hK : kVal.K w V [x0, x1, x2, x3, x4, x5, x6]) (hV : okV V) :
    Calls Tryz.prog 3 #[confV proto plain rb sb ms ct fr, .agg #[x0, x1, x2, x3, x4, x5, x6]] w fun e w' => e = .returned (.bool true) ∧ Below w.heap.size w w' := by
  have hk := Lib.hid known_any
  have HBX := Lib.hid (fun W h => @boxes_at w (.int .i64 proto) (.bool plain) (.bool rb) (.bool sb) (.int .i32 ms) (.int .i32 ct) (.int .i32 fr) x0 x1 x2 x3 x4 x5 x6 23 28 W h)
  have HF := Lib.hid (fun W hB => fits_any hK W hB)
  have HH := Lib.hid (fun W hB A c => heavy_any hV hK W hB A c)
  have HR := Lib.hid (fun W hB => right_any hV hK W hB)
  have HP := Lib.hid (fun hw n W hB hr h0 => Put_C V hw n plain rb sb ms ct fr x0 x1 x2 x3 x4 x5 x6 W (kVal.K_below hB hK) hr h0)
  have HKV := Lib.hid hK
  clear hK
  go_enter Tryz.func3, Tryz.ntmps3
  go_wp2_with (fail)
  refine (HF.out _ (((Below.refl _ w).alloc (Nat.le_refl _) _).alloc (by simp) _)).mono ?_
  rintro e W1 ⟨rfl, hB1⟩
  have HB1 := Lib.hid (show Below (w.heap.size + 1 + 1) _ W1 from by simpa using hB1)
  have HW1 := Lib.hid (show Below w.heap.size w W1 from (((Below.refl _ w).alloc (Nat.le_refl _) _).alloc (by simp) _).trans (hB1.mono (by simp; omega)))
  clear hB1
  cases hfit : fitsV V
  · go_wp2_with (fail)
    go_ret
    exact ⟨rfl, HW1.out⟩
  obtain ⟨⟨p0, p1, p2, p3, p4, p5, p6⟩, q0, q1, q2, q3, q4, q5, q6⟩ := HBX.out W1 HB1.out
  go_wp2_with (fail)
  refine (HH.out _ (HW1.out.alloc HW1.out.size _) ⟨W1.heap.size, 0, none⟩ 1 (Nat.le_refl _) ((cell_heap (heap_alloc_new _ _) 0).trans rfl) ((cell_heap (heap_alloc_new _ _) 1).trans rfl) ((cell_heap (heap_alloc_new _ _) 2).trans rfl) ((cell_heap (heap_alloc_new _ _) 3).trans rfl) ((cell_heap (heap_alloc_new _ _) 4).trans rfl) ((cell_heap (heap_alloc_new _ _) 5).trans rfl) ((cell_heap (heap_alloc_new _ _) 6).trans rfl)).mono ?_
  rintro e W2 ⟨rfl, hB2⟩
  have hs1 := HB1.out.size
  simp at hs1
  have HB2 := Lib.hid (show Below (w.heap.size + 1 + 1) _ W2 from (HB1.out.alloc hs1 _).trans (hB2.mono (by simp; omega)))
  have HW2 := Lib.hid (show Below w.heap.size w W2 from (HW1.out.alloc HW1.out.size _).trans (hB2.mono (by simp; omega)))
  clear hB2 p0 p1 p2 p3 p4 p5 p6 q0 q1 q2 q3 q4 q5 q6
  obtain ⟨⟨p0, p1, p2, p3, p4, p5, p6⟩, q0, q1, q2, q3, q4, q5, q6⟩ := HBX.out W2 HB2.out
  cases hheavy : heavyV V
  case true =>
    go_wp2_with (go_at_call 11; refine (hk.out _).mono ?_; rintro e w' ⟨rfl, hb⟩)
    go_ret
    exact ⟨rfl, HW2.out.trans (hb.mono HW2.out.size)⟩
  have ht := heavyV_tot hheavy
  go_wp2_with (fail)
  refine (HR.out W2 HW2.out).mono ?_
  rintro e W3 ⟨rfl, hB3⟩
  have hs2 := HB2.out.size
  simp at hs2
  have HB3 := Lib.hid (show Below (w.heap.size + 1 + 1) _ W3 from HB2.out.trans (hB3.mono hs2))
  have HW3 := Lib.hid (show Below w.heap.size w W3 from HW2.out.trans (hB3.mono HW2.out.size))
  clear hB3 p0 p1 p2 p3 p4 p5 p6 q0 q1 q2 q3 q4 q5 q6
  obtain ⟨⟨p0, p1, p2, p3, p4, p5, p6⟩, q0, q1, q2, q3, q4, q5, q6⟩ := HBX.out W3 HB3.out
  cases hright : rightV V
  case false =>
    go_wp2_with (go_at_call 11; refine (hk.out _).mono ?_; rintro e w' ⟨rfl, hb⟩)
    go_ret
    exact ⟨rfl, HW3.out.trans (hb.mono HW3.out.size)⟩
  have hT := right_type hright
  have hx0 : x0 = .int .i64 V.f0 := by
    obtain ⟨A2, c2, A5, c5, A6, c6, he, -⟩ := kVal_open HKV.out
    simp only [List.cons.injEq, and_true] at he
    exact he.1
  subst hx0
  obtain ⟨P, hP⟩ : ∃ P, bits .and .i64 proto 1 = P := ⟨_, rfl⟩
  have HPT := Lib.hid (fun W hB => HP.out (tot_wf V hV ht) P W hB (by have := costs_ops V; omega) (by rw [enc_right P _ V hright (tot_wf V hV ht) ht]))
  have HLE := Lib.hid (fun W => least_any P plain rb sb ms ct fr V.f0 hT W)
  have hlen := gen_least P V hright
  have hpos := leastOf_pos P V.f0
  have f0 : W3.frozen? ⟨w.heap.size, 0, none⟩ = false := by
    rw [HB3.out.frozen (show w.heap.size < w.heap.size + 1 + 1 by omega)]
    exact frozen_heap (heap_alloc_old (heap_alloc_new w _) _) 0
  clear HP
  have hs3 := HB3.out.size
  simp at hs3
  have hbox := (HBX.out W3 HB3.out).proto (.int .i64 P)
  go_wp2_with (fail)
  obtain ⟨Wa, hWa⟩ : ∃ Wa, Wa = W3.setCell ⟨w.heap.size, 0, none⟩ (.int .i64 P) := ⟨_, rfl⟩
  have HWa := Lib.hid (show Below w.heap.size w Wa from by rw [hWa]; exact HW3.out.setCell (Nat.le_refl _) _)
  have hsa : w.heap.size + 1 + 1 ≤ Wa.heap.size := by rw [hWa]; simpa using hs3
  rw [← hWa] at hbox ⊢
  have HBOX := Lib.hid hbox
  clear hWa hbox p0 p1 p2 p3 p4 p5 p6 q0 q1 q2 q3 q4 q5 q6 f0
  refine (HPT.out Wa HWa.out).mono ?_
  rintro e W5 ⟨v, k, rfl, hk5, hi5, hB5⟩
  obtain ⟨⟨p0, p1, p2, p3, p4, p5, p6⟩, q0, q1, q2, q3, q4, q5, q6⟩ := HBOX.out.of hB5 (by omega)
  have HW5 := Lib.hid (show Below w.heap.size w W5 from HWa.out.trans (hB5.mono HWa.out.size))
  obtain ⟨ao, c, rfl, -⟩ := IsB.form hi5
  rw [enc_right P _ V hright (tot_wf V hV ht) ht, Lib.byteCells_length]
  obtain ⟨n, hn⟩ : ∃ n, (gen (codec P) V).length = n := ⟨_, rfl⟩
  rw [hn] at hlen ⊢
  obtain ⟨z, hz⟩ : ∃ z, leastOf P V.f0 = z := ⟨_, rfl⟩
  rw [hz] at hlen hpos
  clear hB5 hi5 hn
  go_wp2_with (fail)
  refine (HLE.out _).mono ?_
  rintro e W6 ⟨rfl, hB6⟩
  rw [hz]
  have HW6 := Lib.hid (show Below w.heap.size w W6 from HW5.out.trans (hB6.mono HW5.out.size))
  clear hB6
  have hz0 := hpos.1
  have hzw : wrap64 z = z := by unfold wrap64; omega
  go_wp2_with (go_at_call 11; refine (hk.out _).mono ?_; rintro e w' ⟨rfl, hb⟩)
  all_goals go_ret
  all_goals exact ⟨rfl, HW6.out.trans (hb.mono HW6.out.size)⟩

end Go.Proofs.YtnpiheoglilcbaaGreatDoor

/- The walk of FnSizes. -/
import Derived.Test.YtlgalaciegahnaaGreatDoorMj
import Derived.Test.YtlgalaciegahnaaGreatDoorMg
import Derived.Test.YtlgalaciegahnaaGreatDoorMb
namespace Go.Proofs.YtlgalaciegahnaaGreatDoor
open Go.RowKit Go.Deep Go.Proofs.YtlgalaciegahnaaGreatDoorW.PrintWords
set_option linter.unusedVariables false
set_option linter.unusedSimpArgs false

set_option maxRecDepth 100000 in
set_option maxHeartbeats 4000000 in
theorem fnSizes_walk (proto : Int) (plain rb sb : Bool) (ms ct fr : Int) (x0 x1 x2 x3 x4 x5 x6 : Value) (V : Val) (w : World) (hf : (Lit.int .i64 proto).wf = true ∧ (Lit.int .i32 ms).wf = true ∧ (Lit.int .i32 ct).wf = true ∧ (Lit.int .i32 fr).wf = true) (hK : kVal.K w V [x0, x1, x2, x3, x4, x5, x6]) (hV : okV V) :
    Calls Tryz.prog 3 #[confV proto plain rb sb ms ct fr, .agg #[x0, x1, x2, x3, x4, x5, x6]] w fun e w' => e = .returned (.bool true) ∧ Below w.heap.size w w' := by
  have hk := Lib.hid known_any
  have HBX := Lib.hid (fun W h => @boxes_at w (.int .i64 proto) (.bool plain) (.bool rb) (.bool sb) (.int .i32 ms) (.int .i32 ct) (.int .i32 fr) x0 x1 x2 x3 x4 x5 x6 23 28 W h)
  have HF := Lib.hid (fun W hB => fits_any hK W hB)
  have HH := Lib.hid (fun W hB A c => heavy_any hV hK W hB A c)
  have HR := Lib.hid (fun W hB => right_any hV hK W hB)
  have HS := Lib.hid (fun ht W hB => sizeOf_any hV ht hK W hB)
  have HBY := Lib.hid by_any
  have HP := Lib.hid (fun hw n hn W hB hr => Put_binC V hw n hn plain rb sb ms ct fr x0 x1 x2 x3 x4 x5 x6 W (kVal.K_below hB hK) hr)
  clear hK
  go_enter Tryz.func3, Tryz.ntmps3
  go_wp2_with (fail)
  refine (HF.out _ (((Below.refl _ w).alloc (Nat.le_refl _) _).alloc (by simp) _)).mono ?_
  rintro e W1 ⟨rfl, hB1⟩
  have HB1 := Lib.hid (show Below (w.heap.size + 1 + 1) _ W1 from by simpa using hB1)
  have HW1 := Lib.hid (show Below w.heap.size w W1 from (((Below.refl _ w).alloc (Nat.le_refl _) _).alloc (by simp) _).trans (hB1.mono (by simp; omega)))
  clear hB1
  cases hfit : fitsV V
  · go_wp2_with (fail)
    go_ret
    exact ⟨rfl, HW1.out⟩
  obtain ⟨⟨p0, p1, p2, p3, p4, p5, p6⟩, q0, q1, q2, q3, q4, q5, q6⟩ := HBX.out W1 HB1.out
  go_wp2_with (fail)
  refine (HH.out _ (HW1.out.alloc HW1.out.size _) ⟨W1.heap.size, 0, none⟩ 1 (Nat.le_refl _) ((cell_heap (heap_alloc_new _ _) 0).trans rfl) ((cell_heap (heap_alloc_new _ _) 1).trans rfl) ((cell_heap (heap_alloc_new _ _) 2).trans rfl) ((cell_heap (heap_alloc_new _ _) 3).trans rfl) ((cell_heap (heap_alloc_new _ _) 4).trans rfl) ((cell_heap (heap_alloc_new _ _) 5).trans rfl) ((cell_heap (heap_alloc_new _ _) 6).trans rfl)).mono ?_
  rintro e W2 ⟨rfl, hB2⟩
  have hs1 := HB1.out.size
  simp at hs1
  have HB2 := Lib.hid (show Below (w.heap.size + 1 + 1) _ W2 from (HB1.out.alloc hs1 _).trans (hB2.mono (by simp; omega)))
  have HW2 := Lib.hid (show Below w.heap.size w W2 from (HW1.out.alloc HW1.out.size _).trans (hB2.mono (by simp; omega)))
  clear hB2 p0 p1 p2 p3 p4 p5 p6 q0 q1 q2 q3 q4 q5 q6
  obtain ⟨⟨p0, p1, p2, p3, p4, p5, p6⟩, q0, q1, q2, q3, q4, q5, q6⟩ := HBX.out W2 HB2.out
  cases hheavy : heavyV V
  case true =>
    go_wp2_with (go_at_call 18; refine (hk.out _).mono ?_; rintro e w' ⟨rfl, hb⟩)
    go_ret
    exact ⟨rfl, HW2.out.trans (hb.mono HW2.out.size)⟩
  have ht := heavyV_tot hheavy
  go_wp2_with (fail)
  refine (HR.out W2 HW2.out).mono ?_
  rintro e W3 ⟨rfl, hB3⟩
  have hs2 := HB2.out.size
  simp at hs2
  have HB3 := Lib.hid (show Below (w.heap.size + 1 + 1) _ W3 from HB2.out.trans (hB3.mono hs2))
  have HW3 := Lib.hid (show Below w.heap.size w W3 from HW2.out.trans (hB3.mono HW2.out.size))
  clear hB3 p0 p1 p2 p3 p4 p5 p6 q0 q1 q2 q3 q4 q5 q6
  obtain ⟨⟨p0, p1, p2, p3, p4, p5, p6⟩, q0, q1, q2, q3, q4, q5, q6⟩ := HBX.out W3 HB3.out
  cases hright : rightV V
  case false =>
    go_wp2_with (go_at_call 18; refine (hk.out _).mono ?_; rintro e w' ⟨rfl, hb⟩)
    go_ret
    exact ⟨rfl, HW3.out.trans (hb.mono HW3.out.size)⟩
  have HPT := Lib.hid (fun W hB => HP.out (tot_wf V hV ht) 0 (by decide) W hB (by have := costs_ops V; omega))
  clear HP p0 p1 p2 p3 p4 p5 p6 q0 q1 q2 q3 q4 q5 q6
  go_wp2_with (fail)
  go_region_held3 (fun W' => (W'.cell? ⟨w.heap.size, 0, none⟩ = some (.int .i64 proto) ∧ W'.cell? ⟨w.heap.size, 1, none⟩ = some (.bool plain) ∧ W'.cell? ⟨w.heap.size, 2, none⟩ = some (.bool rb) ∧ W'.cell? ⟨w.heap.size, 3, none⟩ = some (.bool sb) ∧ W'.cell? ⟨w.heap.size, 4, none⟩ = some (.int .i32 ms) ∧ W'.cell? ⟨w.heap.size, 5, none⟩ = some (.int .i32 ct) ∧ W'.cell? ⟨w.heap.size, 6, none⟩ = some (.int .i32 fr)) ∧ W'.cell? ⟨w.heap.size + 1, 0, none⟩ = some x0 ∧ W'.cell? ⟨w.heap.size + 1, 1, none⟩ = some x1 ∧ W'.cell? ⟨w.heap.size + 1, 2, none⟩ = some x2 ∧ W'.cell? ⟨w.heap.size + 1, 3, none⟩ = some x3 ∧ W'.cell? ⟨w.heap.size + 1, 4, none⟩ = some x4 ∧ W'.cell? ⟨w.heap.size + 1, 5, none⟩ = some x5 ∧ W'.cell? ⟨w.heap.size + 1, 6, none⟩ = some x6) (first | exact HBX.out _ HB3.out | exact HBX.out _ HB3.out.drew | exact HBX.out _ HB4.out | exact HBX.out _ HB5.out)
    (first
      | (go_at_call 20; refine (HBY.out _ _ _ _ _ _ _ _ _).mono ?_; rintro e W4 ⟨rfl, hB4⟩; have HB4 := Lib.hid (HB3.out.drew.trans (hB4.mono (show w.heap.size + 1 + 1 ≤ W3.heap.size by have := HB3.out.size; simp at this; exact this))); have HW4 := Lib.hid (HW3.out.drew.trans (hB4.mono (show w.heap.size ≤ W3.heap.size from HW3.out.size))); clear hB4)
      | (go_at_call 19; refine (HPT.out _ HW4.out).mono ?_; rintro e W5 ⟨v, k, rfl, hk5, hi5, hB5⟩; have HB5 := Lib.hid (HB4.out.trans (hB5.mono (show w.heap.size + 1 + 1 ≤ W4.heap.size by have := HB4.out.size; simp at this; exact this))); have HW5 := Lib.hid (HW4.out.trans (hB5.mono (show w.heap.size ≤ W4.heap.size from HW4.out.size))); have HI5 := Lib.hid hi5; clear hB5 hi5 hk5))
  obtain ⟨ao, c, rfl, -⟩ := IsB.form HI5.out
  obtain ⟨n, hn⟩ : ∃ n, (Lib.byteCells (binAll (cfgOf plain rb sb ms ct fr).strictW (ops V))).length = n := ⟨_, rfl⟩
  have hsz : (n : Int) = sz V := by
    rw [← hn, ← bin_len (cfgOf plain rb sb ms ct fr).strictW V hright]
    simp [Lib.byteCells]
  clear HI5
  rw [hn]
  obtain ⟨⟨p0, p1, p2, p3, p4, p5, p6⟩, q0, q1, q2, q3, q4, q5, q6⟩ := HBX.out W5 HB5.out
  go_wp2_with (fail)
  refine (HS.out ht W5 HW5.out).mono ?_
  rintro e W6 ⟨rfl, hB6⟩
  have HW6 := Lib.hid (show Below w.heap.size w W6 from HW5.out.trans (hB6.mono HW5.out.size))
  clear hB6
  go_wp2_with (go_at_call 18; refine (hk.out _).mono ?_; rintro e w' ⟨rfl, hb⟩)
  all_goals go_ret
  all_goals exact ⟨rfl, HW6.out.trans (hb.mono HW6.out.size)⟩

end Go.Proofs.YtlgalaciegahnaaGreatDoor

/- The walk of FnNamed. -/
import Derived.Test.YtdafkilgakablaaGreatDoorMr
import Derived.Test.YtdafkilgakablaaGreatDoorMn
import Derived.Test.YtdafkilgakablaaGreatDoorMp
import Derived.Test.YtdafkilgakablaaGreatDoorMg2
import Derived.Test.YtdafkilgakablaaGreatDoorMb2
namespace Go.Proofs.YtdafkilgakablaaGreatDoor
open Go.RowKit Go.Deep
set_option linter.unusedVariables false
set_option linter.unusedSimpArgs false
open Go.Proofs.YtdafkilgakablaaGreatDoorW.PrintWords

theorem C_one {q : Nat} {x : Int} {W : World} (h : W.cell? ⟨q, 0, none⟩ = some (.int .u8 x)) : (Kd.int .u8).C W (some ⟨q, 0, none⟩) 1 [x] := by
  refine ⟨rfl, by simp, fun _ => ⟨_, rfl, fun j p hj => ⟨[.int .u8 p], rfl, rfl, fun i u hu => ?_⟩⟩⟩
  match j, hj with
  | 0, hj =>
    simp only [List.getElem?_cons_zero, Option.some.injEq] at hj
    subst hj
    cases i with
    | succ i => simp at hu
    | zero =>
      simp only [List.getElem?_cons_zero, Option.some.injEq] at hu
      subst hu
      rw [Lib.addr_add]
      simpa using h
  | j + 1, hj => simp at hj

theorem whole_ints {sv nm : List Int} (h8 : ∀ x ∈ sv, 0 ≤ x ∧ x < 256) (h9 : ∀ x ∈ nm, 0 ≤ x ∧ x < 256) {K : Int} (hK : K = 1 ∨ K = 4) : toB ([sv, [58], nm].flatten) = wholeName (toB sv) (toB nm) K := by
  unfold wholeName
  rw [if_pos hK]
  simp [toB]

set_option maxRecDepth 100000 in
set_option maxHeartbeats 2000000 in
theorem fnNamed_walk (proto : Int) (plain rb sb : Bool) (ms ct fr : Int) (A : Option Addr) (la ca : Nat) (zs : List Int) (B : Option Addr) (lb cb : Nat) (ys : List Int) (kd seq : Int) (w : World) (hf : (Lit.int .i64 proto).wf = true ∧ (Lit.int .i32 ms).wf = true ∧ (Lit.int .i32 ct).wf = true ∧ (Lit.int .i32 fr).wf = true)
    (hr : IsRow .u8 w A la ca zs) (hr2 : IsRow .u8 w B lb cb ys) (hkd : (Lit.int .i64 kd).wf = true) (hq : (Lit.int .i32 seq).wf = true) :
    Calls Tryz.prog 3 #[confV proto plain rb sb ms ct fr, .slice A la ca, .slice B lb cb, .int .i64 kd, .int .i32 seq] w fun e w' => e = .returned (.bool true) ∧ Below w.heap.size w w' := by
  have hseq : -2147483648 ≤ seq ∧ seq < 2147483648 := by
    have h1 : IntKind.i32.min ≤ seq ∧ seq ≤ IntKind.i32.max := by simpa [Lit.wf] using hq
    have e1 : IntKind.i32.min = -2147483648 := by decide
    have e2 : IntKind.i32.max = 2147483647 := by decide
    omega
  have hcapA : la ≤ ca := hr.cap
  have hcapB : lb ≤ cb := hr2.cap
  obtain ⟨sv, rfl, hA, h8⟩ := row_bytes hr
  obtain ⟨nm, rfl, hB, h9⟩ := row_bytes hr2
  clear hr hr2
  have hk := Lib.hid known_any
  have HN := Lib.hid (fun n k W hW hl h0 => Name_C n plain rb sb ms ct fr A B ca cb sv nm k seq W (Kd.C_below hA hW) (Kd.C_below hB hW) hl hseq h0)
  have HWR := Lib.hid (fun n k D cd xs W b (hD : (Kd.int .u8).C W D xs.length xs) hn hb hbl h0 => Write_C n plain rb sb ms ct fr k seq 0 0 0 D cd xs W b hD hn hb hbl h0)
  have HAB := Lib.hid (fun W (hW : Below w.heap.size w W) => And.intro (Kd.C_below hA hW) (Kd.C_below hB hW))
  have H89 := Lib.hid (And.intro h8 h9)
  clear hA hB h8 h9
  by_cases hl1 : sv.length ≤ 2147483647
  case neg =>
    have hl1' : ¬ ((sv.length : Int) ≤ 2147483647) := by omega
    go_enter Tryz.func3, Tryz.ntmps3
    go_wp2_with (fail)
    go_ret
    exact ⟨rfl, (Below.refl _ w).alloc (Nat.le_refl _) _⟩
  have hl1' : (sv.length : Int) ≤ 2147483647 := by omega
  by_cases hl2 : nm.length ≤ 2147483647
  case neg =>
    have hl2' : ¬ ((nm.length : Int) ≤ 2147483647) := by omega
    go_enter Tryz.func3, Tryz.ntmps3
    go_wp2_with (fail)
    go_ret
    exact ⟨rfl, (Below.refl _ w).alloc (Nat.le_refl _) _⟩
  have hl2' : (nm.length : Int) ≤ 2147483647 := by omega
  by_cases hm1 : sv.length ≤ 65536
  case neg =>
    have hm1' : ¬ ((sv.length : Int) ≤ 65536) := by omega
    go_enter Tryz.func3, Tryz.ntmps3
    go_wp2_with (go_at_call 11; refine (hk.out _).mono ?_; rintro e w' ⟨rfl, hb⟩)
    go_ret
    exact ⟨rfl, ((Below.refl _ w).alloc (Nat.le_refl _) _).trans (hb.mono (by simp))⟩
  have hm1' : (sv.length : Int) ≤ 65536 := by omega
  by_cases hm2 : nm.length ≤ 65536
  case neg =>
    have hm2' : ¬ ((nm.length : Int) ≤ 65536) := by omega
    go_enter Tryz.func3, Tryz.ntmps3
    go_wp2_with (go_at_call 11; refine (hk.out _).mono ?_; rintro e w' ⟨rfl, hb⟩)
    go_ret
    exact ⟨rfl, ((Below.refl _ w).alloc (Nat.le_refl _) _).trans (hb.mono (by simp))⟩
  have hm2' : (nm.length : Int) ≤ 65536 := by omega
  obtain ⟨P, hP⟩ : ∃ P, bits .and .i64 proto 1 = P := ⟨_, rfl⟩
  have h7 := i64_seven kd
  obtain ⟨K, hKK⟩ : ∃ K, bits .and .i64 kd 7 = K := ⟨_, rfl⟩
  rw [hKK] at h7
  have hK0 : 0 ≤ K ∧ K < 8 := by omega
  have hKw : wrap32 K = K := by unfold wrap32; omega
  have hws : wrap32 seq = seq := by unfold wrap32; omega
  have hwl : (wholeName (toB sv) (toB nm) K).length ≤ 200000 := by
    unfold wholeName
    split <;> simp [toB] <;> omega
  have hfit2 : (WOp.msgB (wholeName (toB sv) (toB nm) K) K seq).fit := ⟨by omega, by omega, hseq⟩
  have eB := enc_begin P (cfgOf plain rb sb ms ct fr) (wholeName (toB sv) (toB nm) K) K seq hfit2
  have HNT := Lib.hid (fun W hW => HN.out P K W hW (by omega) (by rw [hKw]; exact eB))
  rw [hKw] at HNT
  have HWT2 := Lib.hid (fun (D : Option Addr) (cd : Nat) (xs : List Int) (W : World) (b : Nat) (hD : (Kd.int .u8).C W D xs.length xs) (hxs : toB xs = wholeName (toB sv) (toB nm) K) (hb : Box7 b (.int .i64 0) (.int .i64 K) (.int .i64 0) (.int .i64 0) (.int .i64 0) (.int .i64 seq) (.slice D xs.length cd) W) (hbl : b < W.heap.size) => by
    have hxl : xs.length ≤ 200000 := by have := congrArg List.length hxs; rw [toB_len] at this; omega
    have h := HWR.out P K D cd xs W b hD (by omega) hb hbl (by rw [hws, hKw, hxs]; exact eB)
    rw [hws, hKw, hxs] at h
    exact h)
  obtain ⟨X, hX⟩ : ∃ X, (encC P (cfgOf plain rb sb ms ct fr) [.msgB (wholeName (toB sv) (toB nm) K) K seq]).1 = X := ⟨_, rfl⟩
  rw [hX] at HNT HWT2
  have hXl : X.length ≤ 1000000 := by
    have h1 := enc_len P (cfgOf plain rb sb ms ct fr) [.msgB (wholeName (toB sv) (toB nm) K) K seq]
    rw [hX, costs_cons, costs_nil] at h1
    simp only [WOp.cost] at h1
    omega
  clear HN HWR eB hX hfit2 h7 hf hkd hq hl1 hl2 hm1 hm2
  by_cases hk14 : K = 1 ∨ K = 4
  · have hwx := whole_ints H89.out.1 H89.out.2 hk14
    rcases hk14 with rfl | rfl
    · go_enter Tryz.func3, Tryz.ntmps3
      go_wp2_with (fail)
      obtain ⟨W0, hW0⟩ : ∃ W0, W0 = ((w.alloc (.cells #[.int .i64 P, .bool plain, .bool rb, .bool sb, .int .i32 ms, .int .i32 ct, .int .i32 fr] 23)).alloc (.cells #[.int .u8 58] 5)).alloc (.cells #[.slice A sv.length ca, .slice (some ⟨w.heap.size + 1, 0, none⟩) 1 1, .slice B nm.length cb] 24) := ⟨_, rfl⟩
      have hsz : W0.heap.size = w.heap.size + 1 + 1 + 1 := by rw [hW0]; simp
      have hb1 : W0.heap[w.heap.size]? = some (.cells #[.int .i64 P, .bool plain, .bool rb, .bool sb, .int .i32 ms, .int .i32 ct, .int .i32 fr] 23 (0, 0)) := by rw [hW0]; exact heap_alloc_old (heap_alloc_old (heap_alloc_new w _) _) _
      have hb2 : W0.heap[w.heap.size + 1]? = some (.cells #[.int .u8 58] 5 (0, 0)) := by rw [hW0]; exact heap_alloc_old (heap_alloc_at (by simp) _) _
      have hb3 : W0.heap[w.heap.size + 1 + 1]? = some (.cells #[.slice A sv.length ca, .slice (some ⟨w.heap.size + 1, 0, none⟩) 1 1, .slice B nm.length cb] 24 (0, 0)) := by rw [hW0]; exact heap_alloc_at (by simp) _
      have hB0 : Below w.heap.size w W0 := by rw [hW0]; exact (((Below.refl _ w).alloc (Nat.le_refl _) _).alloc (by simp) _).alloc (by simp <;> omega) _
      have hBx : Box7 w.heap.size (.int .i64 P) (.bool plain) (.bool rb) (.bool sb) (.int .i32 ms) (.int .i32 ct) (.int .i32 fr) W0 := Box7.at_ hb1
      rw [← hW0]
      have HBx := Lib.hid hBx
      have HB0 := Lib.hid hB0
      have HJ := Lib.hid (joined_any (W := W0) (w.heap.size + 1 + 1) 3 [sv, [58], nm] (by simp) (by simp) (by simp) (by simp; omega) (fun j p hj => by
        match j, hj with
        | 0, hj => simp only [List.getElem?_cons_zero, Option.some.injEq] at hj; subst hj; exact ⟨A, ca, (cell_heap hb3 0).trans rfl, hcapA, (HAB.out _ hB0).1⟩
        | 1, hj => simp only [List.getElem?_cons_succ, List.getElem?_cons_zero, Option.some.injEq] at hj; subst hj; exact ⟨_, 1, (cell_heap hb3 1).trans rfl, by simp, C_one ((cell_heap hb2 0).trans rfl)⟩
        | 2, hj => simp only [List.getElem?_cons_succ, List.getElem?_cons_zero, Option.some.injEq] at hj; subst hj; exact ⟨B, cb, (cell_heap hb3 2).trans rfl, hcapB, (HAB.out _ hB0).2⟩
        | j + 3, hj => simp at hj))
      clear hb1 hb2 hb3 hW0 hBx hB0
      refine HJ.out.mono ?_
      rintro e W5 ⟨v, rfl, hR, hB5⟩
      obtain ⟨D, cd, rfl, hcd, hCd⟩ := Kd.R_reads hR
      obtain ⟨xs, hxe⟩ : ∃ xs : List Int, [sv, [58], nm].flatten = xs := ⟨_, rfl⟩
      rw [hxe] at hcd hCd hwx ⊢
      have HW5 := Lib.hid (HB0.out.trans (hB5.mono HB0.out.size))
      have HX := Lib.hid (HBx.out.of hB5 (by omega))
      have HS5 := Lib.hid (show w.heap.size + 1 ≤ W5.heap.size by have := hB5.size; omega)
      have HCD := Lib.hid hCd
      have HWX := Lib.hid hwx
      clear hR hB5 hCd hxe hwx HJ
      obtain ⟨p0, p1, p2, p3, p4, p5, p6⟩ := HX.out
      go_wp2_with (fail)
      refine (HNT.out W5 HW5.out).mono ?_
      rintro e W6 ⟨v, k, rfl, hk6, hi6, hB6⟩
      have HW6 := Lib.hid (HW5.out.trans (hB6.mono HW5.out.size))
      have hs5 := HS5.out
      have hs6 := hB6.size
      have HX6 := Lib.hid (HX.out.of hB6 (by omega))
      have hD6 := Kd.C_below HCD.out hB6
      obtain ⟨ao, ca', rfl, hca, hCa⟩ := hi6.ints
      have HCa := Lib.hid hCa
      have HD6 := Lib.hid hD6
      clear hB6 hi6 hk6 hCa hD6 p0 p1 p2 p3 p4 p5 p6
      obtain ⟨p0, p1, p2, p3, p4, p5, p6⟩ := HX6.out
      go_wp2_with (fail)
      refine (HWT2.out D cd xs (W6.alloc _) W6.heap.size (Kd.C_below HD6.out ((Below.refl _ W6).alloc (Nat.le_refl _) _)) HWX.out (Box7.at_ (heap_alloc_new _ _)) (by simp)).mono ?_
      rintro e W7 ⟨v, k, q, cq, rfl, hi7, ⟨hq7, hcq⟩, hB7⟩
      have hBB := ((Below.refl W6.heap.size W6).alloc (Nat.le_refl _) (.cells #[.int .i64 0, .int .i64 1, .int .i64 0, .int .i64 0, .int .i64 0, .int .i64 seq, .slice D xs.length cd] 33)).trans (hB7.mono (by simp))
      have HBB := Lib.hid hBB
      have hs7 := hBB.size
      have HW7 := Lib.hid (HW6.out.trans (hBB.mono HW6.out.size))
      obtain ⟨bo, cb', rfl, hcb, hCb⟩ := hi7.ints
      have HOK := Lib.hid (isOK_one hq7 hcq)
      have hA7 := Kd.C_below HCa.out HBB.out
      have HE := Lib.hid (fun W (hW : Below W7.heap.size W7 W) => equal_any (Kd.C_below hA7 hW) hca (Kd.C_below hCb hW) hcb)
      clear hB7 hi7 hCb hBB hq7 hA7 hca hcb hcq p0 p1 p2 p3 p4 p5 p6
      go_wp2_with (fail)
      refine HOK.out.mono ?_
      rintro e W9 ⟨rfl, hD9⟩
      have HB9 := Lib.hid hD9.below
      have HW9 := Lib.hid (HW7.out.trans (hD9.below.mono HW7.out.size))
      clear hD9
      have hE := HE.out W9 HB9.out
      first | rw [show decide (X = X) = true by simp] at hE | rw [show decide True = true from rfl] at hE
      have HEE := Lib.hid hE
      clear hE
      go_wp2_with (fail)
      refine HEE.out.mono ?_
      rintro e W11 ⟨rfl, hD11⟩
      have HW11 := Lib.hid (HW9.out.trans (hD11.below.mono HW9.out.size))
      clear hD11
      go_wp2_with (go_at_call 11; refine (hk.out _).mono ?_; rintro e w' ⟨rfl, hb⟩)
      all_goals go_ret
      all_goals exact ⟨rfl, HW11.out.trans (hb.mono HW11.out.size)⟩
    · go_enter Tryz.func3, Tryz.ntmps3
      go_wp2_with (fail)
      obtain ⟨W0, hW0⟩ : ∃ W0, W0 = ((w.alloc (.cells #[.int .i64 P, .bool plain, .bool rb, .bool sb, .int .i32 ms, .int .i32 ct, .int .i32 fr] 23)).alloc (.cells #[.int .u8 58] 5)).alloc (.cells #[.slice A sv.length ca, .slice (some ⟨w.heap.size + 1, 0, none⟩) 1 1, .slice B nm.length cb] 24) := ⟨_, rfl⟩
      have hsz : W0.heap.size = w.heap.size + 1 + 1 + 1 := by rw [hW0]; simp
      have hb1 : W0.heap[w.heap.size]? = some (.cells #[.int .i64 P, .bool plain, .bool rb, .bool sb, .int .i32 ms, .int .i32 ct, .int .i32 fr] 23 (0, 0)) := by rw [hW0]; exact heap_alloc_old (heap_alloc_old (heap_alloc_new w _) _) _
      have hb2 : W0.heap[w.heap.size + 1]? = some (.cells #[.int .u8 58] 5 (0, 0)) := by rw [hW0]; exact heap_alloc_old (heap_alloc_at (by simp) _) _
      have hb3 : W0.heap[w.heap.size + 1 + 1]? = some (.cells #[.slice A sv.length ca, .slice (some ⟨w.heap.size + 1, 0, none⟩) 1 1, .slice B nm.length cb] 24 (0, 0)) := by rw [hW0]; exact heap_alloc_at (by simp) _
      have hB0 : Below w.heap.size w W0 := by rw [hW0]; exact (((Below.refl _ w).alloc (Nat.le_refl _) _).alloc (by simp) _).alloc (by simp <;> omega) _
      have hBx : Box7 w.heap.size (.int .i64 P) (.bool plain) (.bool rb) (.bool sb) (.int .i32 ms) (.int .i32 ct) (.int .i32 fr) W0 := Box7.at_ hb1
      rw [← hW0]
      have HBx := Lib.hid hBx
      have HB0 := Lib.hid hB0
      have HJ := Lib.hid (joined_any (W := W0) (w.heap.size + 1 + 1) 3 [sv, [58], nm] (by simp) (by simp) (by simp) (by simp; omega) (fun j p hj => by
        match j, hj with
        | 0, hj => simp only [List.getElem?_cons_zero, Option.some.injEq] at hj; subst hj; exact ⟨A, ca, (cell_heap hb3 0).trans rfl, hcapA, (HAB.out _ hB0).1⟩
        | 1, hj => simp only [List.getElem?_cons_succ, List.getElem?_cons_zero, Option.some.injEq] at hj; subst hj; exact ⟨_, 1, (cell_heap hb3 1).trans rfl, by simp, C_one ((cell_heap hb2 0).trans rfl)⟩
        | 2, hj => simp only [List.getElem?_cons_succ, List.getElem?_cons_zero, Option.some.injEq] at hj; subst hj; exact ⟨B, cb, (cell_heap hb3 2).trans rfl, hcapB, (HAB.out _ hB0).2⟩
        | j + 3, hj => simp at hj))
      clear hb1 hb2 hb3 hW0 hBx hB0
      refine HJ.out.mono ?_
      rintro e W5 ⟨v, rfl, hR, hB5⟩
      obtain ⟨D, cd, rfl, hcd, hCd⟩ := Kd.R_reads hR
      obtain ⟨xs, hxe⟩ : ∃ xs : List Int, [sv, [58], nm].flatten = xs := ⟨_, rfl⟩
      rw [hxe] at hcd hCd hwx ⊢
      have HW5 := Lib.hid (HB0.out.trans (hB5.mono HB0.out.size))
      have HX := Lib.hid (HBx.out.of hB5 (by omega))
      have HS5 := Lib.hid (show w.heap.size + 1 ≤ W5.heap.size by have := hB5.size; omega)
      have HCD := Lib.hid hCd
      have HWX := Lib.hid hwx
      clear hR hB5 hCd hxe hwx HJ
      obtain ⟨p0, p1, p2, p3, p4, p5, p6⟩ := HX.out
      go_wp2_with (fail)
      refine (HNT.out W5 HW5.out).mono ?_
      rintro e W6 ⟨v, k, rfl, hk6, hi6, hB6⟩
      have HW6 := Lib.hid (HW5.out.trans (hB6.mono HW5.out.size))
      have hs5 := HS5.out
      have hs6 := hB6.size
      have HX6 := Lib.hid (HX.out.of hB6 (by omega))
      have hD6 := Kd.C_below HCD.out hB6
      obtain ⟨ao, ca', rfl, hca, hCa⟩ := hi6.ints
      have HCa := Lib.hid hCa
      have HD6 := Lib.hid hD6
      clear hB6 hi6 hk6 hCa hD6 p0 p1 p2 p3 p4 p5 p6
      obtain ⟨p0, p1, p2, p3, p4, p5, p6⟩ := HX6.out
      go_wp2_with (fail)
      refine (HWT2.out D cd xs (W6.alloc _) W6.heap.size (Kd.C_below HD6.out ((Below.refl _ W6).alloc (Nat.le_refl _) _)) HWX.out (Box7.at_ (heap_alloc_new _ _)) (by simp)).mono ?_
      rintro e W7 ⟨v, k, q, cq, rfl, hi7, ⟨hq7, hcq⟩, hB7⟩
      have hBB := ((Below.refl W6.heap.size W6).alloc (Nat.le_refl _) (.cells #[.int .i64 0, .int .i64 4, .int .i64 0, .int .i64 0, .int .i64 0, .int .i64 seq, .slice D xs.length cd] 33)).trans (hB7.mono (by simp))
      have HBB := Lib.hid hBB
      have hs7 := hBB.size
      have HW7 := Lib.hid (HW6.out.trans (hBB.mono HW6.out.size))
      obtain ⟨bo, cb', rfl, hcb, hCb⟩ := hi7.ints
      have HOK := Lib.hid (isOK_one hq7 hcq)
      have hA7 := Kd.C_below HCa.out HBB.out
      have HE := Lib.hid (fun W (hW : Below W7.heap.size W7 W) => equal_any (Kd.C_below hA7 hW) hca (Kd.C_below hCb hW) hcb)
      clear hB7 hi7 hCb hBB hq7 hA7 hca hcb hcq p0 p1 p2 p3 p4 p5 p6
      go_wp2_with (fail)
      refine HOK.out.mono ?_
      rintro e W9 ⟨rfl, hD9⟩
      have HB9 := Lib.hid hD9.below
      have HW9 := Lib.hid (HW7.out.trans (hD9.below.mono HW7.out.size))
      clear hD9
      have hE := HE.out W9 HB9.out
      first | rw [show decide (X = X) = true by simp] at hE | rw [show decide True = true from rfl] at hE
      have HEE := Lib.hid hE
      clear hE
      go_wp2_with (fail)
      refine HEE.out.mono ?_
      rintro e W11 ⟨rfl, hD11⟩
      have HW11 := Lib.hid (HW9.out.trans (hD11.below.mono HW9.out.size))
      clear hD11
      go_wp2_with (go_at_call 11; refine (hk.out _).mono ?_; rintro e w' ⟨rfl, hb⟩)
      all_goals go_ret
      all_goals exact ⟨rfl, HW11.out.trans (hb.mono HW11.out.size)⟩
  · have hk1 : (K == 1) = false := by simpa using fun e => hk14 (.inl e)
    have hk4 : (K == 4) = false := by simpa using fun e => hk14 (.inr e)
    have hwx : toB nm = wholeName (toB sv) (toB nm) K := by unfold wholeName; rw [if_neg hk14]
    have HWX := Lib.hid hwx
    clear hwx hk14
    go_enter Tryz.func3, Tryz.ntmps3
    go_wp2_with (fail)
    obtain ⟨W5, hW5⟩ : ∃ W5, W5 = w.alloc (.cells #[.int .i64 P, .bool plain, .bool rb, .bool sb, .int .i32 ms, .int .i32 ct, .int .i32 fr] 23) := ⟨_, rfl⟩
    have HW5 := Lib.hid (show Below w.heap.size w W5 from by rw [hW5]; exact (Below.refl _ w).alloc (Nat.le_refl _) _)
    have HX := Lib.hid (show Box7 w.heap.size (.int .i64 P) (.bool plain) (.bool rb) (.bool sb) (.int .i32 ms) (.int .i32 ct) (.int .i32 fr) W5 from by rw [hW5]; exact Box7.at_ (heap_alloc_new w _))
    have HS5 := Lib.hid (show w.heap.size + 1 ≤ W5.heap.size by rw [hW5]; simp)
    rw [← hW5]
    clear hW5
    obtain ⟨p0, p1, p2, p3, p4, p5, p6⟩ := HX.out
    go_wp2_with (fail)
    refine (HNT.out W5 HW5.out).mono ?_
    rintro e W6 ⟨v, k, rfl, hk6, hi6, hB6⟩
    have HW6 := Lib.hid (HW5.out.trans (hB6.mono HW5.out.size))
    have hs5 := HS5.out
    have hs6 := hB6.size
    have HX6 := Lib.hid (HX.out.of hB6 (by omega))
    have hD6 := Kd.C_below (HAB.out _ HW5.out).2 hB6
    obtain ⟨ao, ca', rfl, hca, hCa⟩ := hi6.ints
    have HCa := Lib.hid hCa
    have HD6 := Lib.hid hD6
    clear hB6 hi6 hk6 hCa hD6 p0 p1 p2 p3 p4 p5 p6
    obtain ⟨p0, p1, p2, p3, p4, p5, p6⟩ := HX6.out
    go_wp2_with (fail)
    refine (HWT2.out B cb nm (W6.alloc _) W6.heap.size (Kd.C_below HD6.out ((Below.refl _ W6).alloc (Nat.le_refl _) _)) HWX.out (Box7.at_ (heap_alloc_new _ _)) (by simp)).mono ?_
    rintro e W7 ⟨v, k, q, cq, rfl, hi7, ⟨hq7, hcq⟩, hB7⟩
    have hBB := ((Below.refl W6.heap.size W6).alloc (Nat.le_refl _) (.cells #[.int .i64 0, .int .i64 K, .int .i64 0, .int .i64 0, .int .i64 0, .int .i64 seq, .slice B nm.length cb] 33)).trans (hB7.mono (by simp))
    have HBB := Lib.hid hBB
    have hs7 := hBB.size
    have HW7 := Lib.hid (HW6.out.trans (hBB.mono HW6.out.size))
    obtain ⟨bo, cb', rfl, hcb, hCb⟩ := hi7.ints
    have HOK := Lib.hid (isOK_one hq7 hcq)
    have hA7 := Kd.C_below HCa.out HBB.out
    have HE := Lib.hid (fun W (hW : Below W7.heap.size W7 W) => equal_any (Kd.C_below hA7 hW) hca (Kd.C_below hCb hW) hcb)
    clear hB7 hi7 hCb hBB hq7 hA7 hca hcb hcq p0 p1 p2 p3 p4 p5 p6
    go_wp2_with (fail)
    refine HOK.out.mono ?_
    rintro e W9 ⟨rfl, hD9⟩
    have HB9 := Lib.hid hD9.below
    have HW9 := Lib.hid (HW7.out.trans (hD9.below.mono HW7.out.size))
    clear hD9
    have hE := HE.out W9 HB9.out
    first | rw [show decide (X = X) = true by simp] at hE | rw [show decide True = true from rfl] at hE
    have HEE := Lib.hid hE
    clear hE
    go_wp2_with (fail)
    refine HEE.out.mono ?_
    rintro e W11 ⟨rfl, hD11⟩
    have HW11 := Lib.hid (HW9.out.trans (hD11.below.mono HW9.out.size))
    clear hD11
    go_wp2_with (go_at_call 11; refine (hk.out _).mono ?_; rintro e w' ⟨rfl, hb⟩)
    all_goals go_ret
    all_goals exact ⟨rfl, HW11.out.trans (hb.mono HW11.out.size)⟩

end Go.Proofs.YtdafkilgakablaaGreatDoor

/- The walk of FnLimitTexts. -/
import Derived.Test.YtelocgemofghaaaGreatDoorMx
import Derived.Test.YtelocgemofghaaaGreatDoorMy
import Derived.Test.YtelocgemofghaaaGreatDoorMr
import Derived.Test.YtelocgemofghaaaGreatDoorMg1
import Derived.Test.YtelocgemofghaaaGreatDoorMb2
namespace Go.Proofs.YtelocgemofghaaaGreatDoor
open Go.RowKit Go.Deep
set_option linter.unusedVariables false
set_option linter.unusedSimpArgs false
open Go.Proofs.YtelocgemofghaaaGreatDoorW.PrintWords

theorem fill_set (j N : Nat) (hj : j < N) (a b : Value) : (List.replicate j a ++ List.replicate (N - j) b).set j a = List.replicate (j + 1) a ++ List.replicate (N - (j + 1)) b := by
  rw [show N - j = (N - (j + 1)) + 1 by omega, List.replicate_succ, List.set_append_right _ _ (by simp)]
  simp only [List.length_replicate, Nat.sub_self, List.set_cons_zero]
  rw [List.replicate_succ', List.append_assoc]
  rfl

theorem C_row {q : Nat} {W : World} {cs : Array Value} (s : List UInt8) (h : W.heap[q]? = some (.cells cs 5 (0, 0))) (hl : cs.toList = (ints s).map (Value.int .u8)) (hn : s.length ≤ 1000000) : (Kd.int .u8).C W (some ⟨q, 0, none⟩) (ints s).length (ints s) := by
  refine ⟨rfl, by rw [ints_length]; omega, fun _ => ⟨_, rfl, fun j p hj => ⟨[.int .u8 p], rfl, rfl, fun i u hu => ?_⟩⟩⟩
  cases i with
  | succ i => simp at hu
  | zero =>
    simp only [List.getElem?_cons_zero, Option.some.injEq] at hu
    subst hu
    rw [Lib.addr_add, cell_heap h, ← Array.getElem?_toList, hl]
    show ((ints s).map (Value.int .u8))[0 + j * 1 + 0]? = _
    rw [show 0 + j * 1 + 0 = j by omega, List.getElem?_map, hj]
    rfl

set_option maxRecDepth 100000 in
set_option maxHeartbeats 2000000 in
theorem fnLimitTexts_walk (lim sz fl : Int) (w : World) (hlim : (Lit.int .u16 lim).wf = true) (hsz : (Lit.int .u16 sz).wf = true) (hfl : (Lit.int .u8 fl).wf = true) (hE : EofAt w) :
    Calls Tryz.prog 4 #[.int .u16 lim, .int .u16 sz, .int .u8 fl] w fun e w' => e = .returned (.bool true) ∧ Below w.heap.size w w' := by
  have hu16 : ∀ x : Int, (Lit.int .u16 x).wf = true → 0 ≤ x ∧ x < 65536 := fun x hx => by
    have e1 : IntKind.u16.min = 0 := by decide
    have e2 : IntKind.u16.max = 65535 := by decide
    have h1 : IntKind.u16.min ≤ x ∧ x ≤ IntKind.u16.max := by simpa [Lit.wf] using hx
    omega
  have hu8 : 0 ≤ fl ∧ fl < 256 := by
    have e1 : IntKind.u8.min = 0 := by decide
    have e2 : IntKind.u8.max = 255 := by decide
    have h1 : IntKind.u8.min ≤ fl ∧ fl ≤ IntKind.u8.max := by simpa [Lit.wf] using hfl
    omega
  have hl0 := hu16 lim hlim
  have hs0 := hu16 sz hsz
  obtain ⟨f, rfl⟩ : ∃ f : UInt8, fl = ((f.toNat : Nat) : Int) := ⟨fl.toNat.toUInt8, by simp only [Nat.toUInt8, UInt8.toNat_ofNat']; omega⟩
  obtain ⟨N, rfl⟩ : ∃ N : Nat, sz = N := ⟨sz.toNat, by omega⟩
  clear hlim hsz hfl hu16
  have hk := Lib.hid known_any
  by_cases hz : lim = 0
  case pos =>
    subst hz
    go_enter Tryz.func4, Tryz.ntmps4
    go_wp2_with (go_at_call 12; refine (hk.out _).mono ?_; rintro e w' ⟨rfl, hb⟩)
    go_ret
    exact ⟨rfl, hb⟩
  have hmk : ∀ w : World, (Instr.makeSlice 24 (.int .i64 (N : Int)) (.int .i64 (N : Int))).run Tryz.prog w = .ok (.slice (some ⟨w.heap.size, 0, none⟩) N N) (w.alloc (.cells (madeCells #[.int .u8 0] N) 5)) := fun w => mk_any N (by omega) w
  go_enter Tryz.func4, Tryz.ntmps4
  go_wp2_with (fail)
  obtain ⟨W0, hW0⟩ : ∃ W0, W0 = (w.alloc (.cells #[.int .i64 0, .bool false, .bool false, .bool false, .int .i32 lim, .int .i32 0, .int .i32 0] 23)).alloc (.cells (madeCells #[.int .u8 0] N) 5) := ⟨_, rfl⟩
  have hB0 : Below w.heap.size w W0 := by rw [hW0]; exact ((Below.refl _ w).alloc (Nat.le_refl _) _).alloc (by simp) _
  have hc0 : W0.heap[w.heap.size]? = some (.cells #[.int .i64 0, .bool false, .bool false, .bool false, .int .i32 lim, .int .i32 0, .int .i32 0] 23 (0, 0)) := by rw [hW0]; exact heap_alloc_old (heap_alloc_new w _) _
  have hr0 : W0.heap[w.heap.size + 1]? = some (.cells (madeCells #[.int .u8 0] N) 5 (0, 0)) := by rw [hW0]; exact heap_alloc_at (by simp) _
  rw [← hW0]
  clear hW0 hmk
  have HB0 := Lib.hid hB0
  have HC0 := Lib.hid hc0
  have hm0 : (madeCells #[Value.int .u8 0] N).toList = List.replicate 0 (Value.int .u8 ((f.toNat : Nat) : Int)) ++ List.replicate (N - 0) (Value.int .u8 0) := by
    rw [toList_madeCells_one]
    simp
  have HR0 := Lib.hid hr0
  have HM0 := Lib.hid hm0
  clear hB0 hc0 hr0 hm0
  go_loopw [9] (fun i wr => ∃ (j : Nat) (cs : Array Value), i = .int .i64 (j : Nat) ∧ j ≤ N ∧ Hid (wr.heap[w.heap.size + 1]? = some (.cells cs 5 (0, 0))) ∧ Hid (cs.toList = List.replicate j (Value.int .u8 ((f.toNat : Nat) : Int)) ++ List.replicate (N - j) (Value.int .u8 0)) ∧ Hid (Step [w.heap.size + 1] [w.heap.size + 1] W0 wr)) (fun i _ => N - (intOf i).toNat)
  case atStart => exact ⟨0, _, rfl, by omega, HR0, HM0, Lib.hid (Step.refl _ _)⟩
  case round =>
    obtain ⟨j, cs, rfl, hj, HRW, HM, HST⟩ := hrel
    by_cases hlt : j < N
    case pos =>
      have hcl : cs.toList[j]? = some (.int .u8 0) := by
        rw [HM.out, List.getElem?_append_right (by simp), List.length_replicate, Nat.sub_self, List.getElem?_replicate_of_lt (by omega)]
      have hcj : wr.cell? ⟨w.heap.size + 1, j, none⟩ = some (.int .u8 0) := by
        rw [cell_heap HRW.out, ← Array.getElem?_toList]
        exact hcl
      have hfz := frozen_heap HRW.out
      have hlr := lt_heap HRW.out
      clear hcl
      go_wp2_with (fail)
      exact ⟨⟨j + 1, cs.setIfInBounds j (.int .u8 ((f.toNat : Nat) : Int)), by go_num, by omega, Lib.hid (heap_set_same HRW.out _), Lib.hid (by rw [Array.toList_setIfInBounds, HM.out]; exact fill_set j N hlt _ _), Lib.hid (HST.out.setCell (p := ⟨w.heap.size + 1, j, none⟩) (.inl (by simp)) _)⟩, by simp [intOf]; omega⟩
    case neg =>
      obtain rfl : j = N := by omega
      obtain ⟨s, hs⟩ : ∃ s, List.replicate j f = s := ⟨_, rfl⟩
      have hsl : (ints s).length = j := by rw [ints_length, ← hs]; simp
      have hrow : cs.toList = (ints s).map (Value.int .u8) := by
        rw [HM.out, ← hs, Nat.sub_self]
        simp [ints]
      have hsl2 : s.length ≤ 65535 := by have := ints_length s; omega
      have hC := C_row s HRW.out hrow (by omega)
      have hcc := (HST.out.block w.heap.size (lt_heap HC0.out) (by simp <;> omega)).trans HC0.out
      subst hsl
      have HCR := Lib.hid hC
      have hBw : Below w.heap.size w wr := HB0.out.trans (HST.out.below w.heap.size HB0.out.size (fun b hb => by simp only [List.mem_cons, List.not_mem_nil, or_false] at hb; omega))
      have HBW := Lib.hid hBw
      have hsw := hBw.size
      have HPS := Lib.hid (fun W (hB : Below wr.heap.size wr W) => (Box7.at_ hcc).of hB (lt_heap hcc))
      have hlc := lt_heap hcc
      obtain ⟨p0, p1, p2, p3, p4, p5, p6⟩ := Box7.at_ hcc
      clear hC hBw hcc hrow hs
      have hwf : wfV (⟨11, 0, ints s, 0, 0, [], []⟩ : Val) := ⟨by unfold i64r; omega, by unfold i64r; omega, fun x hx => by
        obtain ⟨y, _, rfl⟩ := List.mem_map.1 hx
        have := y.toNat_lt
        omega, by unfold i64r; omega, by unfold i64r; omega, by simp, by omega, trivial⟩
      have hops : ops (⟨11, 0, ints s, 0, 0, [], []⟩ : Val) = [.str s] := by
        show [WOp.str (toB (ints s))] = _
        rw [toB_ints]
      have HX := Lib.hid (Below.refl wr.heap.size wr)
      have hsx := HX.out.size
      go_wp2_with (fail)
      refine wp_loop_rounds 3 ?_
      rw [rounds_succ]
      go_wp2_with (fail)
      by_cases hsm : ((ints s).length : Int) ≤ lim
      case pos =>
        refine (by_any 0 0 true false false 0 0 0 _).mono ?_
        rintro e P0a ⟨rfl, hBa⟩
        have hXa := HX.out.trans (hBa.mono hsx)
        have hCa := Kd.C_below HCR.out hXa
        have hPut := Put_C (⟨11, 0, ints s, 0, 0, [], []⟩ : Val) hwf 0 true false false 0 0 0 _ _ _ _ _ _ _ P0a (kVal_mk P0a (⟨11, 0, ints s, 0, 0, [], []⟩ : Val) (A2 := some ⟨w.heap.size + 1, 0, none⟩) (c2 := (ints s).length) (Nat.le_refl _) hCa (A5 := none) (c5 := 0) (by simp) (Kd.C_nil _ _) (A6 := none) (c6 := 0) (by simp) (Kd.C_nil _ _)) (by rw [hops]; simp [costs, WOp.cost]; omega) (by rw [hops, enc_txt 0 _ s hsl2])
        rw [hops, enc_txt 0 _ s hsl2] at hPut
        have HPUT := Lib.hid hPut
        clear hPut hCa
        go_wp2_with (fail)
        refine HPUT.out.mono ?_
        rintro e P0b ⟨vb, kb, rfl, hkb, hIB, hBb⟩
        obtain ⟨Ab, cb, rfl, hcb, hCb⟩ := hIB.ints
        have hXb := hXa.trans (hBb.mono hXa.size)
        have hEb := hE.below (HBW.out.trans (hXb.mono hsw)) hE.lt
        have HXB := Lib.hid hXb
        have HCB := Lib.hid hCb
        have HEB := Lib.hid hEb
        have hsb := hXb.size
        clear p0 p1 p2 p3 p4 p5 p6 hBa hXa HPUT hkb hIB hBb hXb hCb hEb hsx
        obtain ⟨p0, p1, p2, p3, p4, p5, p6⟩ := HPS.out P0b HXB.out
        go_wp2_with (fail)
        refine (by_any 0 0 false false false lim 0 0 P0b).mono ?_
        rintro e P0c ⟨rfl, hBc⟩
        have hXc := HXB.out.trans (hBc.mono hsb)
        have hG := Lib.hid (lim_small_get 0 lim (by omega) hl0.2 s (by have := ints_length s; omega) Ab cb P0c (HEB.out.below (hBc.mono (by have := HEB.out.lt; omega)) HEB.out.lt) (Kd.C_below HCB.out hBc))
        go_wp2_with (fail)
        refine hG.out.mono ?_
        rintro e P0d ⟨A2, A5, A6, a2, n5, a5, n6, a6, rfl, hl2, hC2, hBd⟩
        have hXd := hXc.trans (hBd.mono hXc.size)
        have HEQ := Lib.hid (fun W (hB : Below P0d.heap.size P0d W) => equal_bytes (s := s) (W := W) ⟨A2, a2, rfl, hl2, Kd.C_below hC2 hB⟩ ⟨some ⟨w.heap.size + 1, 0, none⟩, (ints s).length, rfl, Nat.le_refl _, Kd.C_below HCR.out (hXd.trans (hB.mono hXd.size))⟩)
        have HXD := Lib.hid hXd
        clear hXc hG hC2 hBd hXd hBc
        go_wp2_with (fail)
        refine (HEQ.out _ ((Below.refl _ P0d).alloc (Nat.le_refl _) _)).mono ?_
        rintro e P0e ⟨rfl, hDe⟩
        have HX := Lib.hid (HXD.out.trans ((((Below.refl _ P0d).alloc (Nat.le_refl _) _).trans (hDe.below.mono (by simp))).mono HXD.out.size))
        have hsx := HX.out.size
        clear HEQ hDe
        clear p0 p1 p2 p3 p4 p5 p6
        go_wp2_with (fail)
        rw [rounds_succ]
        have p0 : True := trivial
        have p1 : True := trivial
        have p2 : True := trivial
        have p3 : True := trivial
        have p4 : True := trivial
        have p5 : True := trivial
        have p6 : True := trivial
        go_wp2_with (fail)
        refine (by_any 1 0 true false false 0 0 0 _).mono ?_
        rintro e P1a ⟨rfl, hBa⟩
        have hXa := HX.out.trans (hBa.mono hsx)
        have hCa := Kd.C_below HCR.out hXa
        have hPut := Put_C (⟨11, 0, ints s, 0, 0, [], []⟩ : Val) hwf 1 true false false 0 0 0 _ _ _ _ _ _ _ P1a (kVal_mk P1a (⟨11, 0, ints s, 0, 0, [], []⟩ : Val) (A2 := some ⟨w.heap.size + 1, 0, none⟩) (c2 := (ints s).length) (Nat.le_refl _) hCa (A5 := none) (c5 := 0) (by simp) (Kd.C_nil _ _) (A6 := none) (c6 := 0) (by simp) (Kd.C_nil _ _)) (by rw [hops]; simp [costs, WOp.cost]; omega) (by rw [hops, enc_txt 1 _ s hsl2])
        rw [hops, enc_txt 1 _ s hsl2] at hPut
        have HPUT := Lib.hid hPut
        clear hPut hCa
        go_wp2_with (fail)
        refine HPUT.out.mono ?_
        rintro e P1b ⟨vb, kb, rfl, hkb, hIB, hBb⟩
        obtain ⟨Ab, cb, rfl, hcb, hCb⟩ := hIB.ints
        have hXb := hXa.trans (hBb.mono hXa.size)
        have hEb := hE.below (HBW.out.trans (hXb.mono hsw)) hE.lt
        have HXB := Lib.hid hXb
        have HCB := Lib.hid hCb
        have HEB := Lib.hid hEb
        have hsb := hXb.size
        clear p0 p1 p2 p3 p4 p5 p6 hBa hXa HPUT hkb hIB hBb hXb hCb hEb hsx
        obtain ⟨p0, p1, p2, p3, p4, p5, p6⟩ := HPS.out P1b HXB.out
        go_wp2_with (fail)
        refine (by_any 1 0 false false false lim 0 0 P1b).mono ?_
        rintro e P1c ⟨rfl, hBc⟩
        have hXc := HXB.out.trans (hBc.mono hsb)
        have hG := Lib.hid (lim_small_get 1 lim (by omega) hl0.2 s (by have := ints_length s; omega) Ab cb P1c (HEB.out.below (hBc.mono (by have := HEB.out.lt; omega)) HEB.out.lt) (Kd.C_below HCB.out hBc))
        go_wp2_with (fail)
        refine hG.out.mono ?_
        rintro e P1d ⟨A2, A5, A6, a2, n5, a5, n6, a6, rfl, hl2, hC2, hBd⟩
        have hXd := hXc.trans (hBd.mono hXc.size)
        have HEQ := Lib.hid (fun W (hB : Below P1d.heap.size P1d W) => equal_bytes (s := s) (W := W) ⟨A2, a2, rfl, hl2, Kd.C_below hC2 hB⟩ ⟨some ⟨w.heap.size + 1, 0, none⟩, (ints s).length, rfl, Nat.le_refl _, Kd.C_below HCR.out (hXd.trans (hB.mono hXd.size))⟩)
        have HXD := Lib.hid hXd
        clear hXc hG hC2 hBd hXd hBc
        go_wp2_with (fail)
        refine (HEQ.out _ ((Below.refl _ P1d).alloc (Nat.le_refl _) _)).mono ?_
        rintro e P1e ⟨rfl, hDe⟩
        have HX := Lib.hid (HXD.out.trans ((((Below.refl _ P1d).alloc (Nat.le_refl _) _).trans (hDe.below.mono (by simp))).mono HXD.out.size))
        have hsx := HX.out.size
        clear HEQ hDe
        clear p0 p1 p2 p3 p4 p5 p6
        go_wp2_with (fail)
        rw [rounds_succ]
        go_wp2_with (go_at_call 12; refine (hk.out _).mono ?_; rintro e w' ⟨rfl, hb⟩)
        go_ret
        exact ⟨rfl, HBW.out.trans ((HX.out.trans (hb.mono hsx)).mono hsw)⟩
      case neg =>
        have hsm2 : lim < ((ints s).length : Int) := by omega
        refine (by_any 0 0 true false false 0 0 0 _).mono ?_
        rintro e P0a ⟨rfl, hBa⟩
        have hXa := HX.out.trans (hBa.mono hsx)
        have hCa := Kd.C_below HCR.out hXa
        have hPut := Put_C (⟨11, 0, ints s, 0, 0, [], []⟩ : Val) hwf 0 true false false 0 0 0 _ _ _ _ _ _ _ P0a (kVal_mk P0a (⟨11, 0, ints s, 0, 0, [], []⟩ : Val) (A2 := some ⟨w.heap.size + 1, 0, none⟩) (c2 := (ints s).length) (Nat.le_refl _) hCa (A5 := none) (c5 := 0) (by simp) (Kd.C_nil _ _) (A6 := none) (c6 := 0) (by simp) (Kd.C_nil _ _)) (by rw [hops]; simp [costs, WOp.cost]; omega) (by rw [hops, enc_txt 0 _ s hsl2])
        rw [hops, enc_txt 0 _ s hsl2] at hPut
        have HPUT := Lib.hid hPut
        clear hPut hCa
        go_wp2_with (fail)
        refine HPUT.out.mono ?_
        rintro e P0b ⟨vb, kb, rfl, hkb, hIB, hBb⟩
        obtain ⟨Ab, cb, rfl, hcb, hCb⟩ := hIB.ints
        have hXb := hXa.trans (hBb.mono hXa.size)
        have hEb := hE.below (HBW.out.trans (hXb.mono hsw)) hE.lt
        have HXB := Lib.hid hXb
        have HCB := Lib.hid hCb
        have HEB := Lib.hid hEb
        have hsb := hXb.size
        clear p0 p1 p2 p3 p4 p5 p6 hBa hXa HPUT hkb hIB hBb hXb hCb hEb hsx
        obtain ⟨p0, p1, p2, p3, p4, p5, p6⟩ := HPS.out P0b HXB.out
        go_wp2_with (fail)
        refine (by_any 0 0 false false false lim 0 0 P0b).mono ?_
        rintro e P0c ⟨rfl, hBc⟩
        have hXc := HXB.out.trans (hBc.mono hsb)
        have hG := Lib.hid (lim_big_get 0 lim (by omega) hl0.2 s hsl2 (by have := ints_length s; omega) Ab cb P0c (HEB.out.below (hBc.mono (by have := HEB.out.lt; omega)) HEB.out.lt) (Kd.C_below HCB.out hBc))
        go_wp2_with (fail)
        refine hG.out.mono ?_
        rintro e P0d ⟨A2, A5, A6, n2, a2, n5, a5, n6, a6, lft, rfl, hBd⟩
        have hXd := hXc.trans (hBd.mono hXc.size)
        have HX := Lib.hid (hXd.alloc hXd.size (.cells #[.int .i64 11, .int .i64 0, .slice A2 n2 a2, .int .i64 0, .int .i64 0, .slice A5 n5 a5, .slice A6 n6 a6] 34))
        have hsx := HX.out.size
        clear hXc hG hBd hXd hBc
        clear p0 p1 p2 p3 p4 p5 p6
        go_wp2_with (fail)
        rw [rounds_succ]
        have p0 : True := trivial
        have p1 : True := trivial
        have p2 : True := trivial
        have p3 : True := trivial
        have p4 : True := trivial
        have p5 : True := trivial
        have p6 : True := trivial
        go_wp2_with (fail)
        refine (by_any 1 0 true false false 0 0 0 _).mono ?_
        rintro e P1a ⟨rfl, hBa⟩
        have hXa := HX.out.trans (hBa.mono hsx)
        have hCa := Kd.C_below HCR.out hXa
        have hPut := Put_C (⟨11, 0, ints s, 0, 0, [], []⟩ : Val) hwf 1 true false false 0 0 0 _ _ _ _ _ _ _ P1a (kVal_mk P1a (⟨11, 0, ints s, 0, 0, [], []⟩ : Val) (A2 := some ⟨w.heap.size + 1, 0, none⟩) (c2 := (ints s).length) (Nat.le_refl _) hCa (A5 := none) (c5 := 0) (by simp) (Kd.C_nil _ _) (A6 := none) (c6 := 0) (by simp) (Kd.C_nil _ _)) (by rw [hops]; simp [costs, WOp.cost]; omega) (by rw [hops, enc_txt 1 _ s hsl2])
        rw [hops, enc_txt 1 _ s hsl2] at hPut
        have HPUT := Lib.hid hPut
        clear hPut hCa
        go_wp2_with (fail)
        refine HPUT.out.mono ?_
        rintro e P1b ⟨vb, kb, rfl, hkb, hIB, hBb⟩
        obtain ⟨Ab, cb, rfl, hcb, hCb⟩ := hIB.ints
        have hXb := hXa.trans (hBb.mono hXa.size)
        have hEb := hE.below (HBW.out.trans (hXb.mono hsw)) hE.lt
        have HXB := Lib.hid hXb
        have HCB := Lib.hid hCb
        have HEB := Lib.hid hEb
        have hsb := hXb.size
        clear p0 p1 p2 p3 p4 p5 p6 hBa hXa HPUT hkb hIB hBb hXb hCb hEb hsx
        obtain ⟨p0, p1, p2, p3, p4, p5, p6⟩ := HPS.out P1b HXB.out
        go_wp2_with (fail)
        refine (by_any 1 0 false false false lim 0 0 P1b).mono ?_
        rintro e P1c ⟨rfl, hBc⟩
        have hXc := HXB.out.trans (hBc.mono hsb)
        have hG := Lib.hid (lim_big_get 1 lim (by omega) hl0.2 s hsl2 (by have := ints_length s; omega) Ab cb P1c (HEB.out.below (hBc.mono (by have := HEB.out.lt; omega)) HEB.out.lt) (Kd.C_below HCB.out hBc))
        go_wp2_with (fail)
        refine hG.out.mono ?_
        rintro e P1d ⟨A2, A5, A6, n2, a2, n5, a5, n6, a6, lft, rfl, hBd⟩
        have hXd := hXc.trans (hBd.mono hXc.size)
        have HX := Lib.hid (hXd.alloc hXd.size (.cells #[.int .i64 11, .int .i64 0, .slice A2 n2 a2, .int .i64 0, .int .i64 0, .slice A5 n5 a5, .slice A6 n6 a6] 34))
        have hsx := HX.out.size
        clear hXc hG hBd hXd hBc
        clear p0 p1 p2 p3 p4 p5 p6
        go_wp2_with (fail)
        rw [rounds_succ]
        go_wp2_with (go_at_call 12; refine (hk.out _).mono ?_; rintro e w' ⟨rfl, hb⟩)
        go_ret
        exact ⟨rfl, HBW.out.trans ((HX.out.trans (hb.mono hsx)).mono hsw)⟩

end Go.Proofs.YtelocgemofghaaaGreatDoor

/- The walk of FnCompactNumbers. -/
import Derived.Test.YtdafkilgakablaaGreatDoorMx
import Derived.Test.YtdafkilgakablaaGreatDoorMr
import Derived.Test.YtdafkilgakablaaGreatDoorMb2
namespace Go.Proofs.YtdafkilgakablaaGreatDoor
open Go.RowKit Go.Deep
set_option linter.unusedVariables false
set_option linter.unusedSimpArgs false
open Go.Proofs.YtdafkilgakablaaGreatDoorW.PrintWords

theorem C_one8 {q : Nat} {x : Int} {W : World} (h : W.cell? ⟨q, 0, none⟩ = some (.int .u8 x)) : (Kd.int .u8).C W (some ⟨q, 0, none⟩) 1 [x] := by
  refine ⟨rfl, by simp, fun _ => ⟨_, rfl, fun j p hj => ⟨[.int .u8 p], rfl, rfl, fun i u hu => ?_⟩⟩⟩
  match j, hj with
  | 0, hj =>
    simp only [List.getElem?_cons_zero, Option.some.injEq] at hj
    subst hj
    cases i with
    | succ i => simp at hu
    | zero =>
      simp only [List.getElem?_cons_zero, Option.some.injEq] at hu
      subst hu
      rw [Lib.addr_add]
      simpa using h
  | j + 1, hj => simp at hj

set_option maxRecDepth 100000 in
set_option maxHeartbeats 20000000 in
theorem fnCompactNumbers_walk (proto : Int) (plain rb sb : Bool) (ms ct fr : Int) (n : Int) (A : Option Addr) (la ca : Nat) (zs : List Int) (w : World) (hf : (Lit.int .i64 proto).wf = true ∧ (Lit.int .i32 ms).wf = true ∧ (Lit.int .i32 ct).wf = true ∧ (Lit.int .i32 fr).wf = true)
    (hn : (Lit.int .i64 n).wf = true) (hr : IsRow .u8 w A la ca zs) (hE : EofAt w) :
    Calls Tryz.prog 6 #[confV proto plain rb sb ms ct fr, .int .i64 n, .slice A la ca] w fun e w' => e = .returned (.bool true) ∧ Below w.heap.size w w' := by
  have hf32 : (cfgOf plain rb sb ms ct fr).fit := by
    have e1 : IntKind.i32.min = -2147483648 := by decide
    have e2 : IntKind.i32.max = 2147483647 := by decide
    have h1 : IntKind.i32.min ≤ ms ∧ ms ≤ IntKind.i32.max := by simpa [Lit.wf] using hf.2.1
    have h2 : IntKind.i32.min ≤ ct ∧ ct ≤ IntKind.i32.max := by simpa [Lit.wf] using hf.2.2.1
    refine ⟨⟨?_, ?_⟩, ⟨?_, ?_⟩⟩ <;> simp only [cfgOf] <;> omega
  have hn0 : -9223372036854775808 ≤ n ∧ n < 9223372036854775808 := by
    have e1 : IntKind.i64.min = -9223372036854775808 := by decide
    have e2 : IntKind.i64.max = 9223372036854775807 := by decide
    have h1 : IntKind.i64.min ≤ n ∧ n ≤ IntKind.i64.max := by simpa [Lit.wf] using hn
    omega
  have hcapA : la ≤ ca := hr.cap
  obtain ⟨sv, rfl, hA, h8⟩ := row_bytes hr
  clear hr hf hn
  have hk := Lib.hid known_any
  have HBY := Lib.hid (fun (W : World) => by_any 1 proto plain rb sb ms ct fr W)
  have HAL : ∀ (o : WOp) (ro : ROp) (op : Int) (X : List UInt8) (r : Int), (∀ W : World, StepWrites W o op 0 0 0 0 n none 0 0) → StepReads ro onlyN op 0 0 0 0 n none 0 0 → o.fit → o.cost ≤ 1000000 → 1 ≤ X.length → (cmpRun CW0 o).2.1 = X → (cmpRun CW0 o).2.2 = 0 → (∀ R, rdC 1 (cfgOf plain rb sb ms ct fr) (CR0, X ++ R) ro = some ({ n := r }, 0, (CR0, R))) → sv.length ≤ 1000000 →
      ∀ (W : World) (D : Option Addr) (cd : Nat), Below w.heap.size w W → (Kd.int .u8).C W D (ints X).length (ints X) → (ints X).length ≤ cd →
      Calls Tryz.prog 22 #[confV 1 plain rb sb ms ct fr, .agg #[.int .i64 op, .int .i64 0, .int .i64 0, .int .i64 0, .int .i64 0, .int .i64 n, .slice none 0 0], .slice D (ints X).length cd, .slice A sv.length ca, .agg #[.int .i64 0, .int .i64 0, .int .i64 0, .int .i64 0, .int .i64 0, .int .i64 r, .slice none 0 0]] W fun e w' => e = .returned (.bool true) ∧ Below W.heap.size W w' := by
    intro o ro op X r hw hrd hfit hcost hX1 hX2 hX3 hrc hsl W D cd hB hD hcd
    exact alone_any 1 plain rb sb ms ct fr hf32 o ro onlyN op 0 0 0 0 n none 0 0 D cd A ca X sv { n := r } (.slice none 0 0) 0 W (hE.below hB hE.lt) (fun W' _ => hw W') hrd hcost hD hcd (Kd.C_below hA hB) hcapA h8 hsl ⟨0, .inl ⟨rfl, rfl⟩⟩ hX1 (by rw [encC_one _ o hfit, hX2, hX3]) (hrc (toB sv)) rfl
  by_cases hl1 : sv.length ≤ 2147483647
  case neg =>
    have hl1' : ¬ ((sv.length : Int) ≤ 2147483647) := by omega
    go_enter Tryz.func6, Tryz.ntmps6
    go_wp2_with (fail)
    go_ret
    exact ⟨rfl, (Below.refl _ w).alloc (Nat.le_refl _) _⟩
  have hl1' : (sv.length : Int) ≤ 2147483647 := by omega
  by_cases hm1 : sv.length ≤ 65536
  case neg =>
    have hm1' : ¬ ((sv.length : Int) ≤ 65536) := by omega
    go_enter Tryz.func6, Tryz.ntmps6
    go_wp2_with (go_at_call 11; refine (hk.out _).mono ?_; rintro e w' ⟨rfl, hb⟩)
    go_ret
    exact ⟨rfl, ((Below.refl _ w).alloc (Nat.le_refl _) _).trans (hb.mono (by simp))⟩
  have hm1' : (sv.length : Int) ≤ 65536 := by omega
  have H1 := Lib.hid (HAL _ _ 13 [if (n != 0) = true then 1 else 2] _ (fun W => sw_bool W 0 0 0 0 none 0 0 n) (sr_bool 0 0 0 0 n none 0 0) trivial (by show 32 ≤ 1000000; omega) (by simp) rfl rfl (fun R => rd_bool _ (n != 0) R) (by omega))
  have H2 := Lib.hid (HAL _ _ 14 [u8 (w8 n)] _ (fun W => sw_byte W 0 0 0 0 none 0 0 n) (sr_byte 0 0 0 0 n none 0 0) (by show -128 ≤ w8 n ∧ w8 n < 128; unfold w8; omega) (by show 32 ≤ 1000000; omega) (by simp) rfl rfl (fun R => rd_byte _ (w8 n) (by unfold w8; omega) (by unfold w8; omega) R) (by omega))
  have H3 := Lib.hid (HAL _ _ 15 _ _ (fun W => sw_i16 W 0 0 0 0 none 0 0 n) (sr_i16 0 0 0 0 n none 0 0) (by show -32768 ≤ w16 n ∧ w16 n < 32768; unfold w16; omega) (by show 32 ≤ 1000000; omega) (Lib.uvarint_pos _) rfl rfl (fun R => rd_i16 _ (w16 n) (by unfold w16; omega) (by unfold w16; omega) R) (by omega))
  have H4 := Lib.hid (HAL _ _ 16 _ _ (fun W => sw_i32 W 0 0 0 0 none 0 0 n) (sr_i32 0 0 0 0 n none 0 0) (by show -2147483648 ≤ wrap32 n ∧ wrap32 n < 2147483648; unfold wrap32; omega) (by show 32 ≤ 1000000; omega) (Lib.uvarint_pos _) rfl rfl (fun R => rd_i32 _ (wrap32 n) (by unfold wrap32; omega) (by unfold wrap32; omega) R) (by omega))
  have H5 := Lib.hid (HAL _ _ 17 _ _ (fun W => sw_i64 W 0 0 0 0 none 0 0 n hn0.1 hn0.2) (sr_i64 0 0 0 0 n none 0 0) hn0 (by show 32 ≤ 1000000; omega) (Lib.uvarint_pos _) rfl rfl (fun R => rd_i64 _ n hn0.1 hn0.2 R) (by omega))
  have hun : (IntKind.u64.wrap n).toNat < 18446744073709551616 := by
    have es : IntKind.u64.signed = false := rfl
    have hN : IntKind.u64.wrap n = n % 18446744073709551616 := by simp [IntKind.wrap, go_sem, es]
    rw [hN]
    omega
  have H6 := Lib.hid (HAL _ _ 18 (le8 (IntKind.u64.wrap n).toNat) _ (fun W => sw_dbl W 0 0 0 0 none 0 0 n) (sr_dbl 0 0 0 0 n none 0 0) hun (by show 32 ≤ 1000000; omega) (by simp [le8, Lib.leBytes_length]) rfl rfl (fun R => rd_dbl _ n hn0.1 hn0.2 R) (by omega))
  simp only [confV] at H1 H2 H3 H4 H5 H6
  clear HAL hun hE hf32 hA h8
  have HF16 := Lib.hid (fun W => folded_any (w16 n) (by unfold w16; omega) (by unfold w16; omega) W)
  have HF32 := Lib.hid (fun W => folded_any (wrap32 n) (by unfold wrap32; omega) (by unfold wrap32; omega) W)
  have HF64 := Lib.hid (fun W => folded_any n hn0.1 hn0.2 W)
  go_enter Tryz.func6, Tryz.ntmps6
  go_wp2_with (fail)
  refine (HBY.out _).mono ?_
  rintro e W1 ⟨rfl, hB1⟩
  have HW1 := Lib.hid (((Below.refl _ w).alloc (Nat.le_refl _) (.cells #[.int .i64 proto, .bool plain, .bool rb, .bool sb, .int .i32 ms, .int .i32 ct, .int .i32 fr] 23)).trans (hB1.mono (by simp)))
  obtain ⟨p0, p1, p2, p3, p4, p5, p6⟩ := (Box7.at_ (heap_alloc_new w (.cells #[.int .i64 proto, .bool plain, .bool rb, .bool sb, .int .i32 ms, .int .i32 ct, .int .i32 fr] 23))).of hB1 (by simp)
  have HBB := Lib.hid hB1
  clear hB1
  have hbk : W1.heap[w.heap.size]? = some (.cells #[.int .i64 proto, .bool plain, .bool rb, .bool sb, .int .i32 ms, .int .i32 ct, .int .i32 fr] 23 (0, 0)) := (HBB.out.block _ (by simp)).trans (heap_alloc_new w _)
  have hz := frozen_heap hbk
  obtain ⟨sg, hsg⟩ : ∃ sg : Int, sg = if n = 0 then 2 else 1 := ⟨_, rfl⟩
  have hsgX : ints [if (n != 0) = true then 1 else 2] = [sg] := by
    by_cases hn1 : n = 0 <;> simp [hn1, hsg, ints]
  rw [hsgX] at H1
  have HBG := Lib.hid (fun W => big_any n W)
  have HLT := Lib.hid (fun W => little_any n W)
  have e8 : w8 n = IntKind.i64.wrap (IntKind.i8.wrap n) := by rw [wrap_i8, IntKind.wrap_i64]; unfold w8; omega
  have e16 : w16 n = IntKind.i64.wrap (IntKind.i16.wrap n) := by rw [wrap_i16, IntKind.wrap_i64]; unfold w16; omega
  have e32 : wrap32 n = IntKind.i64.wrap (IntKind.i32.wrap n) := by rw [IntKind.wrap_i32, IntKind.wrap_i64]; unfold wrap32; omega
  simp only [e32] at H4 HF32
  simp only [e8] at H2 HBG
  simp only [e16] at H3 HF16
  clear e8 e16 e32
  by_cases hn1 : n = 0
  case' pos =>
    simp only [hn1, if_true] at hsg
    subst hn1
    simp only [bne_self_eq_false, Bool.false_eq_true, if_false] at H1
  case' neg =>
    simp only [hn1, if_false] at hsg
    have hnb : (n != 0) = true := by simp [hn1]
    rw [hnb] at H1
    simp only [if_true] at H1
    clear hnb
  all_goals (
    subst hsg
    clear hsgX
    go_wp2_with (fail)
    obtain ⟨W2, hW2⟩ : ∃ W2, W2 = ((((((W1.setCell ⟨w.heap.size, 0, none⟩ (.int .i64 1)).setCell ⟨w.heap.size, 1, none⟩ (.bool plain)).setCell ⟨w.heap.size, 2, none⟩ (.bool rb)).setCell ⟨w.heap.size, 3, none⟩ (.bool sb)).setCell ⟨w.heap.size, 4, none⟩ (.int .i32 ms)).setCell ⟨w.heap.size, 5, none⟩ (.int .i32 ct)).setCell ⟨w.heap.size, 6, none⟩ (.int .i32 fr) := ⟨_, rfl⟩
    have hB2 : Below w.heap.size w W2 := by rw [hW2]; exact ((((((HW1.out.setCell (Nat.le_refl _) _).setCell (Nat.le_refl _) _).setCell (Nat.le_refl _) _).setCell (Nat.le_refl _) _).setCell (Nat.le_refl _) _).setCell (Nat.le_refl _) _).setCell (Nat.le_refl _) _
    have hb2 : W2.heap[w.heap.size]? = some (.cells #[.int .i64 1, .bool plain, .bool rb, .bool sb, .int .i32 ms, .int .i32 ct, .int .i32 fr] 23 (0, 0)) := by
      rw [hW2]
      exact (heap_set_same (o := 6) (heap_set_same (o := 5) (heap_set_same (o := 4) (heap_set_same (o := 3) (heap_set_same (o := 2) (heap_set_same (o := 1) (heap_set_same (o := 0) hbk _) _) _) _) _) _) _).trans rfl
    have HC := Lib.hid (Below.refl (w.heap.size + 1) W2)
    have HB2 := Lib.hid hB2
    have hs2 : w.heap.size + 1 ≤ W2.heap.size := lt_heap hb2
    have HPS := Lib.hid (fun W (hB : Below (w.heap.size + 1) W2 W) => (Box7.at_ hb2).of hB (by omega))
    rw [← hW2]
    clear hW2 hB2 hz hbk HBB p0 p1 p2 p3 p4 p5 p6
    obtain ⟨p0, p1, p2, p3, p4, p5, p6⟩ := Box7.at_ hb2
    clear hb2
    simp only [List.length_cons, List.length_nil, Nat.zero_add] at H1
    first
    | have H1 := Lib.hid (H1.out ((W2.alloc (.cells #[.int .u8 2] 5)).drew) (some ⟨W2.heap.size, 0, none⟩) 1 (HB2.out.trans ((Below.refl _ W2).alloc (Nat.le_of_succ_le hs2) _).drew) (C_one8 (show (W2.alloc (.cells #[.int .u8 2] 5)).cell? ⟨W2.heap.size, 0, none⟩ = _ from (cell_heap (heap_alloc_new W2 _) 0).trans rfl)) (Nat.le_refl _))
      have HC2 := Lib.hid ((Below.refl _ W2).alloc hs2 (.cells #[.int .u8 2] 5)).drew
    | have H1 := Lib.hid (H1.out ((W2.alloc (.cells #[.int .u8 1] 5)).drew) (some ⟨W2.heap.size, 0, none⟩) 1 (HB2.out.trans ((Below.refl _ W2).alloc (Nat.le_of_succ_le hs2) _).drew) (C_one8 (show (W2.alloc (.cells #[.int .u8 1] 5)).cell? ⟨W2.heap.size, 0, none⟩ = _ from (cell_heap (heap_alloc_new W2 _) 0).trans rfl)) (Nat.le_refl _))
      have HC2 := Lib.hid ((Below.refl _ W2).alloc hs2 (.cells #[.int .u8 1] 5)).drew
    simp only [List.append_eq, List.cons_append, List.nil_append]
    go_region_held3 (fun W' => W'.cell? ⟨w.heap.size, 0, none⟩ = some (.int .i64 1) ∧ W'.cell? ⟨w.heap.size, 1, none⟩ = some (.bool plain) ∧ W'.cell? ⟨w.heap.size, 2, none⟩ = some (.bool rb) ∧ W'.cell? ⟨w.heap.size, 3, none⟩ = some (.bool sb) ∧ W'.cell? ⟨w.heap.size, 4, none⟩ = some (.int .i32 ms) ∧ W'.cell? ⟨w.heap.size, 5, none⟩ = some (.int .i32 ct) ∧ W'.cell? ⟨w.heap.size, 6, none⟩ = some (.int .i32 fr)) (first | exact ⟨p0, p1, p2, p3, p4, p5, p6⟩ | exact HPS.out _ HC.out | exact HPS.out _ HC2.out | exact HPS.out _ (HC.out.alloc hs2 _).drew | exact HPS.out _ (HC.out.alloc hs2 _) | exact HPS.out _ HC.out.drew)
      (first
        | (go_at_call 22; with_reducible refine H1.out.mono ?_; rintro e W3 ⟨rfl, hB3⟩; have HC := Lib.hid (HC2.out.trans (hB3.mono (Nat.le_trans hs2 HC2.out.size))); clear hB3)
                | (go_at_call 20; with_reducible refine (HBG.out _).mono ?_; rintro e W3 ⟨v3, rfl, hR3, hB3⟩; obtain ⟨D, cd, rfl, hcd3, hCd3⟩ := Kd.R_reads hR3; have HCD := Lib.hid hCd3; have HCAP := Lib.hid hcd3; have HC := Lib.hid (HC.out.trans (hB3.mono (Nat.le_trans hs2 HC.out.size))); clear hR3 hB3 hCd3 hcd3)
        | (go_at_call 24; with_reducible refine (HLT.out _).mono ?_; rintro e W3 ⟨v3, rfl, hR3, hB3⟩; obtain ⟨D, cd, rfl, hcd3, hCd3⟩ := Kd.R_reads hR3; have HCD := Lib.hid hCd3; have HCAP := Lib.hid hcd3; have HC := Lib.hid (HC.out.trans (hB3.mono (Nat.le_trans hs2 HC.out.size))); clear hR3 hB3 hCd3 hcd3)
        | (go_at_call 23; with_reducible refine (HF16.out _).mono ?_; rintro e W3 ⟨v3, rfl, hR3, hB3⟩; obtain ⟨D, cd, rfl, hcd3, hCd3⟩ := Kd.R_reads hR3; have HCD := Lib.hid hCd3; have HCAP := Lib.hid hcd3; have HC := Lib.hid (HC.out.trans (hB3.mono (Nat.le_trans hs2 HC.out.size))); clear hR3 hB3 hCd3 hcd3)
        | (go_at_call 23; with_reducible refine (HF32.out _).mono ?_; rintro e W3 ⟨v3, rfl, hR3, hB3⟩; obtain ⟨D, cd, rfl, hcd3, hCd3⟩ := Kd.R_reads hR3; have HCD := Lib.hid hCd3; have HCAP := Lib.hid hcd3; have HC := Lib.hid (HC.out.trans (hB3.mono (Nat.le_trans hs2 HC.out.size))); clear hR3 hB3 hCd3 hcd3)
        | (go_at_call 23; with_reducible refine (HF64.out _).mono ?_; rintro e W3 ⟨v3, rfl, hR3, hB3⟩; obtain ⟨D, cd, rfl, hcd3, hCd3⟩ := Kd.R_reads hR3; have HCD := Lib.hid hCd3; have HCAP := Lib.hid hcd3; have HC := Lib.hid (HC.out.trans (hB3.mono (Nat.le_trans hs2 HC.out.size))); clear hR3 hB3 hCd3 hcd3)
                | (go_at_call 22; (with_reducible refine (H2.out _ D cd (HB2.out.trans (HC.out.mono (Nat.le_succ _))) HCD.out HCAP.out).mono ?_); rintro e W3 ⟨rfl, hB3⟩; have HC := Lib.hid (HC.out.trans (hB3.mono (Nat.le_trans hs2 HC.out.size))); clear hB3)
        | (go_at_call 22; (with_reducible refine (H3.out _ D cd (HB2.out.trans (HC.out.mono (Nat.le_succ _))) HCD.out HCAP.out).mono ?_); rintro e W3 ⟨rfl, hB3⟩; have HC := Lib.hid (HC.out.trans (hB3.mono (Nat.le_trans hs2 HC.out.size))); clear hB3)
        | (go_at_call 22; (with_reducible refine (H4.out _ D cd (HB2.out.trans (HC.out.mono (Nat.le_succ _))) HCD.out HCAP.out).mono ?_); rintro e W3 ⟨rfl, hB3⟩; have HC := Lib.hid (HC.out.trans (hB3.mono (Nat.le_trans hs2 HC.out.size))); clear hB3)
        | (go_at_call 22; (with_reducible refine (H5.out _ D cd (HB2.out.trans (HC.out.mono (Nat.le_succ _))) HCD.out HCAP.out).mono ?_); rintro e W3 ⟨rfl, hB3⟩; have HC := Lib.hid (HC.out.trans (hB3.mono (Nat.le_trans hs2 HC.out.size))); clear hB3)
        | (go_at_call 22; (with_reducible refine (H6.out _ D cd (HB2.out.trans (HC.out.mono (Nat.le_succ _))) HCD.out HCAP.out).mono ?_); rintro e W3 ⟨rfl, hB3⟩; have HC := Lib.hid (HC.out.trans (hB3.mono (Nat.le_trans hs2 HC.out.size))); clear hB3)
        | (go_at_call 11; refine (hk.out _).mono ?_; rintro e W3 ⟨rfl, hB3⟩; have HC := Lib.hid (HC.out.trans (hB3.mono (Nat.le_trans hs2 HC.out.size))); clear hB3))
    go_wp2_with (fail)
    go_ret
    exact ⟨rfl, HB2.out.trans (HC.out.mono (Nat.le_succ _))⟩)

end Go.Proofs.YtdafkilgakablaaGreatDoor

/- The helpers of the laws. No condition. -/
import Derived.Test.YtnpiheoglilcbaaGreatDoorMc
import Derived.Below
import Derived.Deep.Draws
import Derived.Deep.AppendLies
import Derived.Maps.AppendAt
import Derived.OwnWalk
import Derived.Laws.BytesArg
import Derived.Laws.MakeOwn
import Derived.Laws.OwnMore
import Derived.Deep.OwnRows
import Derived.Tactics
import Derived.Lib.ConvBytes
import Derived.Laws.Slices
import Derived.WalkKit
import Derived.KernelRfl
import Derived.RowKit3
import Derived.Deep.LoopGhost
import Derived.Deep.QuietTactic
import Derived.BigQuiet
import Derived.WideLaws
import Derived.Deep.DeepCutAuto
import Derived.Deep.CutBlock
import Derived.Deep.RegionHeld3
import Derived.Laws.Rows
import Derived.Lib.AppendStr
import Derived.ArgAppend
import Derived.Laws.IdiomCopy
import Derived.OrdersHeld
import Derived.Laws.BitsLemmas
import Derived.RowKit
import Derived.Test.YtnpiheoglilcbaaGreatDoorWWords
import Derived.Test.YtnpiheoglilcbaaGreatDoorWLast
import Derived.Test.YtnpiheoglilcbaaGreatDoorWTab
import Derived.Test.YtnpiheoglilcbaaGreatDoorWFour
import Derived.Test.YtnpiheoglilcbaaGreatDoorWQPut
import Derived.Test.YtnpiheoglilcbaaGreatDoorWApart
import Derived.Test.YtnpiheoglilcbaaGreatDoorWArr
import Derived.Test.YtnpiheoglilcbaaGreatDoorWZeros
import Derived.Test.YtnpiheoglilcbaaGreatDoorWFoot
import Derived.Test.YtnpiheoglilcbaaGreatDoorWKept
import Derived.Test.YtnpiheoglilcbaaGreatDoorWShare
import Derived.Test.YtnpiheoglilcbaaGreatDoorWN
import Derived.Test.YtnpiheoglilcbaaGreatDoorWFootNe
import Derived.Test.YtnpiheoglilcbaaGreatDoorWAt
import Derived.Test.YtnpiheoglilcbaaGreatDoorWEqStruct
import Derived.Test.YtnpiheoglilcbaaGreatDoorWRepsOne
import Derived.Test.YtnpiheoglilcbaaGreatDoorWInv
import Derived.Test.YtnpiheoglilcbaaGreatDoorWInvWords
import Derived.Test.YtnpiheoglilcbaaGreatDoorWGuard
import Derived.Test.YtnpiheoglilcbaaGreatDoorWNEv
import Derived.Test.YtnpiheoglilcbaaGreatDoorWMore
/-! Sizes and weights. Turned by a program (wip/tools/own.py) from what the kit's print says of these functions. -/
namespace Go.Proofs.YtnpiheoglilcbaaGreatDoor
open Go.RowKit Go.Proofs.YtnpiheoglilcbaaGreatDoorW.PrintWords Go.Proofs.YtnpiheoglilcbaaGreatDoorW.PrintLast Go.Proofs.YtnpiheoglilcbaaGreatDoorW.PrintMore
attribute [local go_sem] max2_int min2_int max_two min_two max_three min_three max_four min_four
set_option linter.unusedVariables false
set_option linter.unusedSimpArgs false

/-! ### laws_zzFits1 -/
def laws_zzFits1.f (a0_0 : Int) (a0_1 : Int) (l0_2 : List Int) (a0_3 : Int) (a0_4 : Int) (l0_5 : List Int) (l0_6 : List (Val)) : Option (Bool) := if (l0_2.length : Int) > 2147483647 then (some false) else (if (l0_5.length : Int) > 2147483647 then (some false) else (if (l0_6.length : Int) > 2147483647 then (some false) else (some true)))
set_option maxHeartbeats 8000000 in
set_option maxRecDepth 100000 in
theorem laws_zzFits1.calls (a0_0 : Int) (a0_1 : Int) (A0_2 : Option Addr) (c0_2 : Nat) (l0_2 : List Int) (a0_3 : Int) (a0_4 : Int) (A0_5 : Option Addr) (c0_5 : Nat) (l0_5 : List Int) (A0_6 : Option Addr) (c0_6 : Nat) (l0_6 : List (Val)) (r : Bool) (w : World) (hr0_2 : Kd.C (Kd.int .u8) w A0_2 l0_2.length l0_2) (hc0_2 : l0_2.length ≤ c0_2) (hr0_5 : Kd.C (Kd.int .i64) w A0_5 l0_5.length l0_5) (hc0_5 : l0_5.length ≤ c0_5) (hr0_6 : Kd.C kVal w A0_6 l0_6.length l0_6) (hc0_6 : l0_6.length ≤ c0_6) (h : laws_zzFits1.f a0_0 a0_1 l0_2 a0_3 a0_4 l0_5 l0_6 = some r) :
    Calls Tryz.prog 8 #[.agg #[.int .i64 a0_0, .int .i64 a0_1, .slice A0_2 l0_2.length c0_2, .int .i64 a0_3, .int .i64 a0_4, .slice A0_5 l0_5.length c0_5, .slice A0_6 l0_6.length c0_6]] w fun e w' => e = .returned (.bool r) ∧ Below w.heap.size w w' := by
  have hu28 := Tryz.underlying28
  have HR0_2 := Aside0.mk hr0_2
  have HC0_2 := Aside0.mk hc0_2
  clear hr0_2 hc0_2
  have HR0_5 := Aside0.mk hr0_5
  have HC0_5 := Aside0.mk hc0_5
  clear hr0_5 hc0_5
  have HR0_6 := Aside0.mk hr0_6
  have HC0_6 := Aside0.mk hc0_6
  clear hr0_6 hc0_6
  have HB := Aside0.mk (Below.refl w.heap.size w)
  have H : (if (l0_2.length : Int) > 2147483647 then (some false) else (if (l0_5.length : Int) > 2147483647 then (some false) else (if (l0_6.length : Int) > 2147483647 then (some false) else (some true)))) = some r := h
  clear h
  by_cases c2 : (l0_2.length : Int) > 2147483647
  · rw [if_pos c2] at H
    have c2b0 : decide (2147483647 < (l0_2.length : Int)) = true := decide_eq_true c2
    have c2b1 : decide (2147483647 < l0_2.length) = true := decide_eq_true (by omega)
    clear c2
    obtain rfl := Option.some.inj H
    go_enter Tryz.func8, Tryz.ntmps8
    go_wp2_with (first | ((with_reducible refine gate_dst (N := 1) rfl ?_); refine box_event ?hg (N := 1) ?hd (cs := #[.int .i64 a0_0, .int .i64 a0_1, .slice A0_2 l0_2.length c0_2, .int .i64 a0_3, .int .i64 a0_4, .slice A0_5 l0_5.length c0_5, .slice A0_6 l0_6.length c0_6]) (t := 28) ?hr ?_; (case hd => rfl); (case hg => rfl); (case hr => first | (go_simp; done) | (go_simp; rfl)); intro gb101 hg w3 hbox hb; have n0_ := Aside0.mk (below_step (by repeat (first | (with_reducible first | exact HB.out | apply below_alloc | apply pw_below_drewN | apply below_drew1) | exact HB.out)) hb); have n1_ := Aside0.mk (hbox); have n2_ := Aside0.mk ((by rw [hg]; exact (below_size (by repeat (first | (with_reducible first | exact HB.out | apply below_alloc | apply pw_below_drewN | apply below_drew1) | exact HB.out))) : w.heap.size ≤ gb101)); have n3_ := Aside0.mk ((by rw [hg]; exact (below_size (by repeat (first | (with_reducible first | exact HB.out | apply below_alloc | apply pw_below_drewN | apply below_drew1) | exact HB.out))) : w.heap.size ≤ gb101)); clear HB; have HB := n0_; have BK101 := n1_; have GW101 := n2_; have GE101 := n3_; clear n0_ n1_ n2_ n3_; clear hb hbox hg; have hcz4_0 : w3.cell? ⟨gb101, 0, none⟩ = some (.int .i64 a0_0) := (blk_cell BK101.out 0).trans rfl; have hcz4_1 : w3.cell? ⟨gb101, 1, none⟩ = some (.int .i64 a0_1) := (blk_cell BK101.out 1).trans rfl; have hcz4_2 : w3.cell? ⟨gb101, 2, none⟩ = some (.slice A0_2 l0_2.length c0_2) := (blk_cell BK101.out 2).trans rfl; have hcz4_3 : w3.cell? ⟨gb101, 3, none⟩ = some (.int .i64 a0_3) := (blk_cell BK101.out 3).trans rfl; have hcz4_4 : w3.cell? ⟨gb101, 4, none⟩ = some (.int .i64 a0_4) := (blk_cell BK101.out 4).trans rfl; have hcz4_5 : w3.cell? ⟨gb101, 5, none⟩ = some (.slice A0_5 l0_5.length c0_5) := (blk_cell BK101.out 5).trans rfl; have hcz4_6 : w3.cell? ⟨gb101, 6, none⟩ = some (.slice A0_6 l0_6.length c0_6) := (blk_cell BK101.out 6).trans rfl; have hfz4_0 := blk_frozen BK101.out 0; have hfz4_1 := blk_frozen BK101.out 1; have hfz4_2 := blk_frozen BK101.out 2; have hfz4_3 := blk_frozen BK101.out 3; have hfz4_4 := blk_frozen BK101.out 4; have hfz4_5 := blk_frozen BK101.out 5; have hfz4_6 := blk_frozen BK101.out 6))
    go_ret
    exact ⟨by first | rfl | (simp [Nat.add_zero] <;> rfl) | (simp [*, Nat.add_zero] <;> rfl), by repeat (first | (with_reducible first | exact HB.out | apply below_alloc | apply pw_below_drewN | apply below_drew1 | refine below_set ?_ GE101.out) | exact HB.out)⟩
  · rw [if_neg c2] at H
    have c2b0 : decide (2147483647 < (l0_2.length : Int)) = false := decide_eq_false c2
    have c2b1 : decide (2147483647 < l0_2.length) = false := decide_eq_false (by omega)
    clear c2
    by_cases c5 : (l0_5.length : Int) > 2147483647
    · rw [if_pos c5] at H
      have c5b0 : decide (2147483647 < (l0_5.length : Int)) = true := decide_eq_true c5
      have c5b1 : decide (2147483647 < l0_5.length) = true := decide_eq_true (by omega)
      clear c5
      obtain rfl := Option.some.inj H
      go_enter Tryz.func8, Tryz.ntmps8
      go_wp2_with (first | ((with_reducible refine gate_dst (N := 1) rfl ?_); refine box_event ?hg (N := 1) ?hd (cs := #[.int .i64 a0_0, .int .i64 a0_1, .slice A0_2 l0_2.length c0_2, .int .i64 a0_3, .int .i64 a0_4, .slice A0_5 l0_5.length c0_5, .slice A0_6 l0_6.length c0_6]) (t := 28) ?hr ?_; (case hd => rfl); (case hg => rfl); (case hr => first | (go_simp; done) | (go_simp; rfl)); intro gb101 hg w6 hbox hb; have n0_ := Aside0.mk (below_step (by repeat (first | (with_reducible first | exact HB.out | apply below_alloc | apply pw_below_drewN | apply below_drew1) | exact HB.out)) hb); have n1_ := Aside0.mk (hbox); have n2_ := Aside0.mk ((by rw [hg]; exact (below_size (by repeat (first | (with_reducible first | exact HB.out | apply below_alloc | apply pw_below_drewN | apply below_drew1) | exact HB.out))) : w.heap.size ≤ gb101)); have n3_ := Aside0.mk ((by rw [hg]; exact (below_size (by repeat (first | (with_reducible first | exact HB.out | apply below_alloc | apply pw_below_drewN | apply below_drew1) | exact HB.out))) : w.heap.size ≤ gb101)); clear HB; have HB := n0_; have BK101 := n1_; have GW101 := n2_; have GE101 := n3_; clear n0_ n1_ n2_ n3_; clear hb hbox hg; have hcz7_0 : w6.cell? ⟨gb101, 0, none⟩ = some (.int .i64 a0_0) := (blk_cell BK101.out 0).trans rfl; have hcz7_1 : w6.cell? ⟨gb101, 1, none⟩ = some (.int .i64 a0_1) := (blk_cell BK101.out 1).trans rfl; have hcz7_2 : w6.cell? ⟨gb101, 2, none⟩ = some (.slice A0_2 l0_2.length c0_2) := (blk_cell BK101.out 2).trans rfl; have hcz7_3 : w6.cell? ⟨gb101, 3, none⟩ = some (.int .i64 a0_3) := (blk_cell BK101.out 3).trans rfl; have hcz7_4 : w6.cell? ⟨gb101, 4, none⟩ = some (.int .i64 a0_4) := (blk_cell BK101.out 4).trans rfl; have hcz7_5 : w6.cell? ⟨gb101, 5, none⟩ = some (.slice A0_5 l0_5.length c0_5) := (blk_cell BK101.out 5).trans rfl; have hcz7_6 : w6.cell? ⟨gb101, 6, none⟩ = some (.slice A0_6 l0_6.length c0_6) := (blk_cell BK101.out 6).trans rfl; have hfz7_0 := blk_frozen BK101.out 0; have hfz7_1 := blk_frozen BK101.out 1; have hfz7_2 := blk_frozen BK101.out 2; have hfz7_3 := blk_frozen BK101.out 3; have hfz7_4 := blk_frozen BK101.out 4; have hfz7_5 := blk_frozen BK101.out 5; have hfz7_6 := blk_frozen BK101.out 6))
      go_ret
      exact ⟨by first | rfl | (simp [Nat.add_zero] <;> rfl) | (simp [*, Nat.add_zero] <;> rfl), by repeat (first | (with_reducible first | exact HB.out | apply below_alloc | apply pw_below_drewN | apply below_drew1 | refine below_set ?_ GE101.out) | exact HB.out)⟩
    · rw [if_neg c5] at H
      have c5b0 : decide (2147483647 < (l0_5.length : Int)) = false := decide_eq_false c5
      have c5b1 : decide (2147483647 < l0_5.length) = false := decide_eq_false (by omega)
      clear c5
      by_cases c8 : (l0_6.length : Int) > 2147483647
      · rw [if_pos c8] at H
        have c8b0 : decide (2147483647 < (l0_6.length : Int)) = true := decide_eq_true c8
        have c8b1 : decide (2147483647 < l0_6.length) = true := decide_eq_true (by omega)
        clear c8
        obtain rfl := Option.some.inj H
        go_enter Tryz.func8, Tryz.ntmps8
        go_wp2_with (first | ((with_reducible refine gate_dst (N := 1) rfl ?_); refine box_event ?hg (N := 1) ?hd (cs := #[.int .i64 a0_0, .int .i64 a0_1, .slice A0_2 l0_2.length c0_2, .int .i64 a0_3, .int .i64 a0_4, .slice A0_5 l0_5.length c0_5, .slice A0_6 l0_6.length c0_6]) (t := 28) ?hr ?_; (case hd => rfl); (case hg => rfl); (case hr => first | (go_simp; done) | (go_simp; rfl)); intro gb101 hg w9 hbox hb; have n0_ := Aside0.mk (below_step (by repeat (first | (with_reducible first | exact HB.out | apply below_alloc | apply pw_below_drewN | apply below_drew1) | exact HB.out)) hb); have n1_ := Aside0.mk (hbox); have n2_ := Aside0.mk ((by rw [hg]; exact (below_size (by repeat (first | (with_reducible first | exact HB.out | apply below_alloc | apply pw_below_drewN | apply below_drew1) | exact HB.out))) : w.heap.size ≤ gb101)); have n3_ := Aside0.mk ((by rw [hg]; exact (below_size (by repeat (first | (with_reducible first | exact HB.out | apply below_alloc | apply pw_below_drewN | apply below_drew1) | exact HB.out))) : w.heap.size ≤ gb101)); clear HB; have HB := n0_; have BK101 := n1_; have GW101 := n2_; have GE101 := n3_; clear n0_ n1_ n2_ n3_; clear hb hbox hg; have hcz10_0 : w9.cell? ⟨gb101, 0, none⟩ = some (.int .i64 a0_0) := (blk_cell BK101.out 0).trans rfl; have hcz10_1 : w9.cell? ⟨gb101, 1, none⟩ = some (.int .i64 a0_1) := (blk_cell BK101.out 1).trans rfl; have hcz10_2 : w9.cell? ⟨gb101, 2, none⟩ = some (.slice A0_2 l0_2.length c0_2) := (blk_cell BK101.out 2).trans rfl; have hcz10_3 : w9.cell? ⟨gb101, 3, none⟩ = some (.int .i64 a0_3) := (blk_cell BK101.out 3).trans rfl; have hcz10_4 : w9.cell? ⟨gb101, 4, none⟩ = some (.int .i64 a0_4) := (blk_cell BK101.out 4).trans rfl; have hcz10_5 : w9.cell? ⟨gb101, 5, none⟩ = some (.slice A0_5 l0_5.length c0_5) := (blk_cell BK101.out 5).trans rfl; have hcz10_6 : w9.cell? ⟨gb101, 6, none⟩ = some (.slice A0_6 l0_6.length c0_6) := (blk_cell BK101.out 6).trans rfl; have hfz10_0 := blk_frozen BK101.out 0; have hfz10_1 := blk_frozen BK101.out 1; have hfz10_2 := blk_frozen BK101.out 2; have hfz10_3 := blk_frozen BK101.out 3; have hfz10_4 := blk_frozen BK101.out 4; have hfz10_5 := blk_frozen BK101.out 5; have hfz10_6 := blk_frozen BK101.out 6))
        go_ret
        exact ⟨by first | rfl | (simp [Nat.add_zero] <;> rfl) | (simp [*, Nat.add_zero] <;> rfl), by repeat (first | (with_reducible first | exact HB.out | apply below_alloc | apply pw_below_drewN | apply below_drew1 | refine below_set ?_ GE101.out) | exact HB.out)⟩
      · rw [if_neg c8] at H
        have c8b0 : decide (2147483647 < (l0_6.length : Int)) = false := decide_eq_false c8
        have c8b1 : decide (2147483647 < l0_6.length) = false := decide_eq_false (by omega)
        clear c8
        obtain rfl := Option.some.inj H
        go_enter Tryz.func8, Tryz.ntmps8
        go_wp2_with (first | ((with_reducible refine gate_dst (N := 1) rfl ?_); refine box_event ?hg (N := 1) ?hd (cs := #[.int .i64 a0_0, .int .i64 a0_1, .slice A0_2 l0_2.length c0_2, .int .i64 a0_3, .int .i64 a0_4, .slice A0_5 l0_5.length c0_5, .slice A0_6 l0_6.length c0_6]) (t := 28) ?hr ?_; (case hd => rfl); (case hg => rfl); (case hr => first | (go_simp; done) | (go_simp; rfl)); intro gb101 hg w11 hbox hb; have n0_ := Aside0.mk (below_step (by repeat (first | (with_reducible first | exact HB.out | apply below_alloc | apply pw_below_drewN | apply below_drew1) | exact HB.out)) hb); have n1_ := Aside0.mk (hbox); have n2_ := Aside0.mk ((by rw [hg]; exact (below_size (by repeat (first | (with_reducible first | exact HB.out | apply below_alloc | apply pw_below_drewN | apply below_drew1) | exact HB.out))) : w.heap.size ≤ gb101)); have n3_ := Aside0.mk ((by rw [hg]; exact (below_size (by repeat (first | (with_reducible first | exact HB.out | apply below_alloc | apply pw_below_drewN | apply below_drew1) | exact HB.out))) : w.heap.size ≤ gb101)); clear HB; have HB := n0_; have BK101 := n1_; have GW101 := n2_; have GE101 := n3_; clear n0_ n1_ n2_ n3_; clear hb hbox hg; have hcz12_0 : w11.cell? ⟨gb101, 0, none⟩ = some (.int .i64 a0_0) := (blk_cell BK101.out 0).trans rfl; have hcz12_1 : w11.cell? ⟨gb101, 1, none⟩ = some (.int .i64 a0_1) := (blk_cell BK101.out 1).trans rfl; have hcz12_2 : w11.cell? ⟨gb101, 2, none⟩ = some (.slice A0_2 l0_2.length c0_2) := (blk_cell BK101.out 2).trans rfl; have hcz12_3 : w11.cell? ⟨gb101, 3, none⟩ = some (.int .i64 a0_3) := (blk_cell BK101.out 3).trans rfl; have hcz12_4 : w11.cell? ⟨gb101, 4, none⟩ = some (.int .i64 a0_4) := (blk_cell BK101.out 4).trans rfl; have hcz12_5 : w11.cell? ⟨gb101, 5, none⟩ = some (.slice A0_5 l0_5.length c0_5) := (blk_cell BK101.out 5).trans rfl; have hcz12_6 : w11.cell? ⟨gb101, 6, none⟩ = some (.slice A0_6 l0_6.length c0_6) := (blk_cell BK101.out 6).trans rfl; have hfz12_0 := blk_frozen BK101.out 0; have hfz12_1 := blk_frozen BK101.out 1; have hfz12_2 := blk_frozen BK101.out 2; have hfz12_3 := blk_frozen BK101.out 3; have hfz12_4 := blk_frozen BK101.out 4; have hfz12_5 := blk_frozen BK101.out 5; have hfz12_6 := blk_frozen BK101.out 6))
        go_ret
        exact ⟨by first | rfl | (simp [Nat.add_zero] <;> rfl) | (simp [*, Nat.add_zero] <;> rfl), by repeat (first | (with_reducible first | exact HB.out | apply below_alloc | apply pw_below_drewN | apply below_drew1 | refine below_set ?_ GE101.out) | exact HB.out)⟩


/-! ### laws_weigh -/
mutual
def laws_weigh.l0 : Nat → Int → Int → Int → Int → List Int → Int → Int → List Int → List (Val) → Option (Int)
  | 0, _, _, _, _, _, _, _, _, _ => none
  | k + 1, x1, x5, x103000, x103001, x103002, x103003, x103004, x103005, x103006 => if x5 < (x103006.length : Int) then (if x1 ≤ 65536 then (if 0 ≤ x5 then ((laws_weigh.f k ((rd_Val x103006 x5).f0) ((rd_Val x103006 x5).f1) ((rd_Val x103006 x5).f2) ((rd_Val x103006 x5).f3) ((rd_Val x103006 x5).f4) ((rd_Val x103006 x5).f5) ((rd_Val x103006 x5).f6) (wrap64 (x1 + 8))).bind fun t104 => (laws_weigh.l0 k t104 (wrap64 (x5 + 1)) x103000 x103001 x103002 x103003 x103004 x103005 x103006)) else (none)) else (some x1)) else (some x1)
def laws_weigh.f : Nat → Int → Int → List Int → Int → Int → List Int → List (Val) → Int → Option (Int)
  | 0, _, _, _, _, _, _, _, _ => none
  | k + 1, a0_0, a0_1, l0_2, a0_3, a0_4, l0_5, l0_6, a1 => laws_weigh.l0 k (wrap64 (a1 + ((1 + (mn (l0_2.length : Int) 65537)) + (mn (l0_5.length : Int) 65537)))) 0 a0_0 a0_1 l0_2 a0_3 a0_4 l0_5 l0_6
end
theorem laws_weigh.mono_l : ∀ k, (∀ y0 y1 y2 y3 y4 y5 y6 y7, LeO (laws_weigh.f k y0 y1 y2 y3 y4 y5 y6 y7) (laws_weigh.f (k + 1) y0 y1 y2 y3 y4 y5 y6 y7)) ∧ (∀ y0 y1 y2 y3 y4 y5 y6 y7 y8, LeO (laws_weigh.l0 k y0 y1 y2 y3 y4 y5 y6 y7 y8) (laws_weigh.l0 (k + 1) y0 y1 y2 y3 y4 y5 y6 y7 y8))
  | 0 => ⟨fun _ _ _ _ _ _ _ _ r h => by simp [laws_weigh.f] at h, fun _ _ _ _ _ _ _ _ _ r h => by simp [laws_weigh.l0] at h⟩
  | k + 1 => by
    obtain ⟨ih0, ih1⟩ := laws_weigh.mono_l k
    refine ⟨?_, ?_⟩
    · intro y0 y1 y2 y3 y4 y5 y6 y7
      unfold laws_weigh.f
      repeat' first
      | (with_reducible exact ih0 _ _ _ _ _ _ _ _)
      | (with_reducible exact ih1 _ _ _ _ _ _ _ _ _)
      | (with_reducible exact LeO.refl _)
      | (with_reducible exact LeO.none _)
      | (with_reducible refine LeO.ite ?_ ?_)
      | (with_reducible refine LeO.bind ?_ (fun _ => ?_))
      | exact ih0 _ _ _ _ _ _ _ _
      | exact ih1 _ _ _ _ _ _ _ _ _
      | exact LeO.none _
      | refine LeO.ite ?_ ?_
      | refine LeO.bind ?_ (fun _ => ?_)
    · intro y0 y1 y2 y3 y4 y5 y6 y7 y8
      unfold laws_weigh.l0
      repeat' first
      | (with_reducible exact ih0 _ _ _ _ _ _ _ _)
      | (with_reducible exact ih1 _ _ _ _ _ _ _ _ _)
      | (with_reducible exact LeO.refl _)
      | (with_reducible exact LeO.none _)
      | (with_reducible refine LeO.ite ?_ ?_)
      | (with_reducible refine LeO.bind ?_ (fun _ => ?_))
      | exact ih0 _ _ _ _ _ _ _ _
      | exact ih1 _ _ _ _ _ _ _ _ _
      | exact LeO.none _
      | refine LeO.ite ?_ ?_
      | refine LeO.bind ?_ (fun _ => ?_)
theorem laws_weigh.mono : ∀ a0 a1 a2 a3 a4 a5 a6 a7 k, LeO (laws_weigh.f k a0 a1 a2 a3 a4 a5 a6 a7) (laws_weigh.f (k + 1) a0 a1 a2 a3 a4 a5 a6 a7) := by
  intro a0 a1 a2 a3 a4 a5 a6 a7 k
  obtain ⟨ih0, ih1⟩ := laws_weigh.mono_l k
  exact ih0 a0 a1 a2 a3 a4 a5 a6 a7
set_option maxHeartbeats 8000000 in
set_option maxRecDepth 100000 in
theorem laws_weigh.calls (k : Nat) : ∀ (a0_0 : Int) (a0_1 : Int) (A0_2 : Option Addr) (c0_2 : Nat) (l0_2 : List Int) (a0_3 : Int) (a0_4 : Int) (A0_5 : Option Addr) (c0_5 : Nat) (l0_5 : List Int) (A0_6 : Option Addr) (c0_6 : Nat) (l0_6 : List (Val)) (a1 : Int) (r : Int) (w : World) (hr0_2 : Kd.C (Kd.int .u8) w A0_2 l0_2.length l0_2) (hc0_2 : l0_2.length ≤ c0_2) (hr0_5 : Kd.C (Kd.int .i64) w A0_5 l0_5.length l0_5) (hc0_5 : l0_5.length ≤ c0_5) (hr0_6 : Kd.C kVal w A0_6 l0_6.length l0_6) (hc0_6 : l0_6.length ≤ c0_6) (h : laws_weigh.f k a0_0 a0_1 l0_2 a0_3 a0_4 l0_5 l0_6 a1 = some r),
    Calls Tryz.prog 22 #[.agg #[.int .i64 a0_0, .int .i64 a0_1, .slice A0_2 l0_2.length c0_2, .int .i64 a0_3, .int .i64 a0_4, .slice A0_5 l0_5.length c0_5, .slice A0_6 l0_6.length c0_6], .int .i64 a1] w fun e w' => e = .returned (.int .i64 r) ∧ Below w.heap.size w w' := by
  induction k using Nat.strongRecOn with
  | _ k ih =>
  intro a0_0 a0_1 A0_2 c0_2 l0_2 a0_3 a0_4 A0_5 c0_5 l0_5 A0_6 c0_6 l0_6 a1 r w hr0_2 hc0_2 hr0_5 hc0_5 hr0_6 hc0_6 h
  cases k with
  | zero => exact absurd h (by simp [laws_weigh.f])
  | succ k =>
  simp only [laws_weigh.f] at h
  have hu28 := Tryz.underlying28
  have HR0_2 := Aside0.mk hr0_2
  have HC0_2 := Aside0.mk hc0_2
  clear hr0_2 hc0_2
  have HR0_5 := Aside0.mk hr0_5
  have HC0_5 := Aside0.mk hc0_5
  clear hr0_5 hc0_5
  have HR0_6 := Aside0.mk hr0_6
  have HC0_6 := Aside0.mk hc0_6
  clear hr0_6 hc0_6
  have HB := Aside0.mk (Below.refl w.heap.size w)
  have H : (laws_weigh.l0 k (wrap64 (a1 + ((1 + (mn (l0_2.length : Int) 65537)) + (mn (l0_5.length : Int) 65537)))) 0 a0_0 a0_1 l0_2 a0_3 a0_4 l0_5 l0_6) = some r := h
  clear h
  obtain ⟨ji3, hji3⟩ : ∃ j_ : Int, (mn (l0_2.length : Int) 65537) = j_ := ⟨_, rfl⟩
  replace H : (laws_weigh.l0 k (wrap64 (a1 + ((1 + (ji3)) + (mn (l0_5.length : Int) 65537)))) 0 a0_0 a0_1 l0_2 a0_3 a0_4 l0_5 l0_6) = some r := by first | (rw [hji3] at H; exact H) | (simp only [hji3] at H ⊢; exact H)
  (try (have hji3h : ji3 ≤ 65537 := by (rw [← hji3]; unfold mn; (repeat' split) <;> omega)))
  (try (have hji3g : ji3 ≤ 64 := by omega))
  (try (have hji3l : 0 ≤ ji3 := by (rw [← hji3]; unfold mn; (repeat' split) <;> omega)))
  (try (have hji3m : 0 ≤ ji3 := by omega))
  have hji3_ : (if 65537 < (l0_2.length : Int) then 65537 else (l0_2.length : Int)) = ji3 := hji3
  obtain ⟨ji4, hji4⟩ : ∃ j_ : Int, (mn (l0_5.length : Int) 65537) = j_ := ⟨_, rfl⟩
  replace H : (laws_weigh.l0 k (wrap64 (a1 + ((1 + (ji3)) + (ji4)))) 0 a0_0 a0_1 l0_2 a0_3 a0_4 l0_5 l0_6) = some r := by first | (rw [hji4] at H; exact H) | (simp only [hji4] at H ⊢; exact H)
  (try (have hji4h : ji4 ≤ 65537 := by (rw [← hji4]; unfold mn; (repeat' split) <;> omega)))
  (try (have hji4g : ji4 ≤ 64 := by omega))
  (try (have hji4l : 0 ≤ ji4 := by (rw [← hji4]; unfold mn; (repeat' split) <;> omega)))
  (try (have hji4m : 0 ≤ ji4 := by omega))
  have hji4_ : (if 65537 < (l0_5.length : Int) then 65537 else (l0_5.length : Int)) = ji4 := hji4
  have H' := Aside0.mk H
  clear H
  go_enter Tryz.func22, Tryz.ntmps22
  go_wp2_with (first | ((with_reducible refine gate_dst (N := 2) rfl ?_); refine box_event ?hg (N := 2) ?hd (cs := #[.int .i64 a0_0, .int .i64 a0_1, .slice A0_2 l0_2.length c0_2, .int .i64 a0_3, .int .i64 a0_4, .slice A0_5 l0_5.length c0_5, .slice A0_6 l0_6.length c0_6]) (t := 28) ?hr ?_; (case hd => rfl); (case hg => rfl); (case hr => first | (go_simp; done) | (go_simp; rfl)); intro gb102 hg w5 hbox hb; have n0_ := Aside0.mk (below_step (by repeat (first | (with_reducible first | exact HB.out | apply below_alloc | apply pw_below_drewN | apply below_drew1) | exact HB.out)) hb); have n1_ := Aside0.mk (hbox); have n2_ := Aside0.mk ((by rw [hg]; exact (below_size (by repeat (first | (with_reducible first | exact HB.out | apply below_alloc | apply pw_below_drewN | apply below_drew1) | exact HB.out))) : w.heap.size ≤ gb102)); have n3_ := Aside0.mk ((by rw [hg]; exact (below_size (by repeat (first | (with_reducible first | exact HB.out | apply below_alloc | apply pw_below_drewN | apply below_drew1) | exact HB.out))) : w.heap.size ≤ gb102)); clear HB; have HB := n0_; have BK102 := n1_; have GW102 := n2_; have GE102 := n3_; clear n0_ n1_ n2_ n3_; clear hb hbox hg; have hcz6_0 : w5.cell? ⟨gb102, 0, none⟩ = some (.int .i64 a0_0) := (blk_cell BK102.out 0).trans rfl; have hcz6_1 : w5.cell? ⟨gb102, 1, none⟩ = some (.int .i64 a0_1) := (blk_cell BK102.out 1).trans rfl; have hcz6_2 : w5.cell? ⟨gb102, 2, none⟩ = some (.slice A0_2 l0_2.length c0_2) := (blk_cell BK102.out 2).trans rfl; have hcz6_3 : w5.cell? ⟨gb102, 3, none⟩ = some (.int .i64 a0_3) := (blk_cell BK102.out 3).trans rfl; have hcz6_4 : w5.cell? ⟨gb102, 4, none⟩ = some (.int .i64 a0_4) := (blk_cell BK102.out 4).trans rfl; have hcz6_5 : w5.cell? ⟨gb102, 5, none⟩ = some (.slice A0_5 l0_5.length c0_5) := (blk_cell BK102.out 5).trans rfl; have hcz6_6 : w5.cell? ⟨gb102, 6, none⟩ = some (.slice A0_6 l0_6.length c0_6) := (blk_cell BK102.out 6).trans rfl; have hfz6_0 := blk_frozen BK102.out 0; have hfz6_1 := blk_frozen BK102.out 1; have hfz6_2 := blk_frozen BK102.out 2; have hfz6_3 := blk_frozen BK102.out 3; have hfz6_4 := blk_frozen BK102.out 4; have hfz6_5 := blk_frozen BK102.out 5; have hfz6_6 := blk_frozen BK102.out 6))
  go_loopg [1, 5] k (fun kq v1 v5 w' => ∃ (x1_1 : Int) (x5_1 : Int), v1 = .int .i64 x1_1 ∧ v5 = .int .i64 x5_1 ∧ Aside0 (laws_weigh.l0 kq x1_1 x5_1 a0_0 a0_1 l0_2 a0_3 a0_4 l0_5 l0_6 = some r) ∧ Aside0 (kq ≤ k) ∧ Aside0 (w'.heap[gb102]? = some (.cells #[.int .i64 a0_0, .int .i64 a0_1, (.slice A0_2 l0_2.length c0_2), .int .i64 a0_3, .int .i64 a0_4, (.slice A0_5 l0_5.length c0_5), (.slice A0_6 l0_6.length c0_6)] 28 (0, 0))) ∧ Aside0 (Below w.heap.size w w'))
  case atStart => exact ⟨(wrap64 (a1 + ((1 + (ji3)) + (ji4)))), (0), (by first | rfl | (simp; done) | (simp only [← hji3, ← hji4] <;> (first | rfl | simp)) | (simp [*]; done)), (by first | rfl | (simp; done) | (simp [*]; done)), H', ⟨Nat.le_refl _⟩, ⟨by (with_reducible repeat (first | refine blk_drewN ?_ _ | refine blk_drew ?_ | refine blk_alloc ?_ _)); exact BK102.out⟩, ⟨by repeat (first | (with_reducible first | exact HB.out | apply below_alloc | apply pw_below_drewN | apply below_drew1 | refine below_set ?_ GE102.out) | exact HB.out)⟩⟩
  case round =>
    clear H'
    try clear c2
    try clear p2
    try clear p6
    try clear hcz6_0
    try clear hcz6_1
    try clear hcz6_2
    try clear hcz6_3
    try clear hcz6_4
    try clear hcz6_5
    try clear hcz6_6
    try clear hfz6_0
    try clear hfz6_1
    try clear hfz6_2
    try clear hfz6_3
    try clear hfz6_4
    try clear hfz6_5
    try clear hfz6_6
    obtain ⟨x1_1, x5_1, rfl, rfl, HA, HK1, BK102, HB⟩ := hrel
    cases gk with
    | zero => exact absurd HA.out (by simp [laws_weigh.l0])
    | succ k1 =>
      have H := HA.out
      clear HA
      simp only [laws_weigh.l0] at H
      by_cases c7 : x5_1 < (l0_6.length : Int)
      · rw [if_pos c7] at H
        have c7b0 : decide (x5_1 < (l0_6.length : Int)) = true := decide_eq_true c7
        clear c7
        by_cases c8 : x1_1 ≤ 65536
        · rw [if_pos c8] at H
          have c8b0 : decide (x1_1 ≤ 65536) = true := decide_eq_true c8
          clear c8
          by_cases c9 : 0 ≤ x5_1
          · rw [if_pos c9] at H
            have c9b0 : decide (0 ≤ x5_1) = true := decide_eq_true c9
            clear c9
            replace H := Option.bind_eq_some_iff.mp H
            obtain ⟨t104, A100, H⟩ := H
            replace H : (laws_weigh.l0 k1 t104 (wrap64 (x5_1 + 1)) a0_0 a0_1 l0_2 a0_3 a0_4 l0_5 l0_6) = some r := H
            have A10 := Aside0.mk A100
            clear A100
            have H' := Aside0.mk H
            clear H
            have hcz11_0 : wr.cell? ⟨gb102, 0, none⟩ = some (.int .i64 a0_0) := (blk_cell BK102.out 0).trans rfl
            have hcz11_1 : wr.cell? ⟨gb102, 1, none⟩ = some (.int .i64 a0_1) := (blk_cell BK102.out 1).trans rfl
            have hcz11_2 : wr.cell? ⟨gb102, 2, none⟩ = some (.slice A0_2 l0_2.length c0_2) := (blk_cell BK102.out 2).trans rfl
            have hcz11_3 : wr.cell? ⟨gb102, 3, none⟩ = some (.int .i64 a0_3) := (blk_cell BK102.out 3).trans rfl
            have hcz11_4 : wr.cell? ⟨gb102, 4, none⟩ = some (.int .i64 a0_4) := (blk_cell BK102.out 4).trans rfl
            have hcz11_5 : wr.cell? ⟨gb102, 5, none⟩ = some (.slice A0_5 l0_5.length c0_5) := (blk_cell BK102.out 5).trans rfl
            have hcz11_6 : wr.cell? ⟨gb102, 6, none⟩ = some (.slice A0_6 l0_6.length c0_6) := (blk_cell BK102.out 6).trans rfl
            have hfz11_0 := blk_frozen BK102.out 0
            have hfz11_1 := blk_frozen BK102.out 1
            have hfz11_2 := blk_frozen BK102.out 2
            have hfz11_3 := blk_frozen BK102.out 3
            have hfz11_4 := blk_frozen BK102.out 4
            have hfz11_5 := blk_frozen BK102.out 5
            have hfz11_6 := blk_frozen BK102.out 6
            have p103 : 0 ≤ (x5_1 : Int) := of_decide_eq_true (by first | (with_reducible assumption) | assumption)
            have q103 : x5_1 < (l0_6.length : Int) := of_decide_eq_true (by first | (with_reducible assumption) | assumption)
            obtain ⟨ad103, A103_2, c103_2, A103_5, c103_5, A103_6, c103_6, e103, hx103_0, hx103_1, hx103_2, hx103_3, hx103_4, hx103_5, hx103_6, hl103_2, hi103_2, hl103_5, hi103_5, hl103_6, hi103_6⟩ := at_Val HR0_6.out x5_1 p103 q103
            cases e103
            replace hx103_0 := (HB.out.cell (World.block_lt_of_cell? w _ hx103_0)).trans hx103_0
            replace hx103_1 := (HB.out.cell (World.block_lt_of_cell? w _ hx103_1)).trans hx103_1
            replace hx103_2 := (HB.out.cell (World.block_lt_of_cell? w _ hx103_2)).trans hx103_2
            replace hx103_3 := (HB.out.cell (World.block_lt_of_cell? w _ hx103_3)).trans hx103_3
            replace hx103_4 := (HB.out.cell (World.block_lt_of_cell? w _ hx103_4)).trans hx103_4
            replace hx103_5 := (HB.out.cell (World.block_lt_of_cell? w _ hx103_5)).trans hx103_5
            replace hx103_6 := (HB.out.cell (World.block_lt_of_cell? w _ hx103_6)).trans hx103_6
            have HR103_2 := Aside0.mk hi103_2
            have HC103_2 := Aside0.mk hl103_2
            clear hi103_2 hl103_2
            have HR103_5 := Aside0.mk hi103_5
            have HC103_5 := Aside0.mk hl103_5
            clear hi103_5 hl103_5
            have HR103_6 := Aside0.mk hi103_6
            have HC103_6 := Aside0.mk hl103_6
            clear hi103_6 hl103_6
            replace p103 := eq_true p103
            replace q103 := eq_true q103
            go_wp2_with (first | ((with_reducible refine gate_callee (f := 22) rfl ?_); refine goesL_ (some 36) rfl rfl Tryz.func22 (by kernel_rfl) rfl #[.agg #[.int .i64 ((rd_Val l0_6 x5_1).f0), .int .i64 ((rd_Val l0_6 x5_1).f1), .slice A103_2 ((rd_Val l0_6 x5_1).f2).length c103_2, .int .i64 ((rd_Val l0_6 x5_1).f3), .int .i64 ((rd_Val l0_6 x5_1).f4), .slice A103_5 ((rd_Val l0_6 x5_1).f5).length c103_5, .slice A103_6 ((rd_Val l0_6 x5_1).f6).length c103_6], .int .i64 (wrap64 (x1_1 + 8))] rfl (by (try simp only [List.map_toArray, List.map_cons, List.map_nil]); first | done | rfl | (simp only [List.length_drop, List.length_take]; rfl)) ?_; (with_reducible refine (ih k1 (by have := HK1.out; omega) ((rd_Val l0_6 x5_1).f0) ((rd_Val l0_6 x5_1).f1) _ _ ((rd_Val l0_6 x5_1).f2) ((rd_Val l0_6 x5_1).f3) ((rd_Val l0_6 x5_1).f4) _ _ ((rd_Val l0_6 x5_1).f5) _ _ ((rd_Val l0_6 x5_1).f6) (wrap64 (x1_1 + 8)) t104 _ ?side1 ?side2 ?side3 ?side4 ?side5 ?side6 A10.out).mono ?_); (case side1 => repeat (first | exact (Kd.C_below HR103_2.out HB.out) | (with_reducible refine Kd.C_alloc ?_ _) | (with_reducible refine Kd.C_drewN ?_ _) | (with_reducible refine Kd.C_drew ?_))); (case side2 => exact HC103_2.out); (case side3 => repeat (first | exact (Kd.C_below HR103_5.out HB.out) | (with_reducible refine Kd.C_alloc ?_ _) | (with_reducible refine Kd.C_drewN ?_ _) | (with_reducible refine Kd.C_drew ?_))); (case side4 => exact HC103_5.out); (case side5 => repeat (first | exact (Kd.C_below HR103_6.out HB.out) | (with_reducible refine Kd.C_alloc ?_ _) | (with_reducible refine Kd.C_drewN ?_ _) | (with_reducible refine Kd.C_drew ?_))); (case side6 => exact HC103_6.out); rintro e w12 ⟨rfl, hb⟩; refine ⟨_, rfl, ?_⟩; have n0_ := Aside0.mk (blk_below (g := gb102) (o := .cells #[.int .i64 a0_0, .int .i64 a0_1, .slice A0_2 l0_2.length c0_2, .int .i64 a0_3, .int .i64 a0_4, .slice A0_5 l0_5.length c0_5, .slice (some ad103) l0_6.length c0_6] 28 (0, 0)) (by (with_reducible repeat (first | refine blk_drewN ?_ _ | refine blk_drew ?_ | refine blk_alloc ?_ _)); exact BK102.out) hb); have n1_ := Aside0.mk (below_step (by repeat (first | (with_reducible first | exact HB.out | apply below_alloc | apply pw_below_drewN | apply below_drew1 | refine below_set ?_ GE102.out) | exact HB.out)) hb); clear BK102; clear HB; have BK102 := n0_; have HB := n1_; clear n0_ n1_; (try clear hb); (try clear hb2); (try clear hk); (try clear hi)))
            go_roundg k1
            case measure => have := HK1.out; omega
            case rel => exact ⟨(t104), (wrap64 (x5_1 + 1)), (by first | rfl | (simp; done) | (simp [*]; done)), (by first | rfl | (simp; done) | (simp [*]; done)), H', ⟨by have := HK1.out; omega⟩, ⟨by (with_reducible repeat (first | refine blk_drewN ?_ _ | refine blk_drew ?_ | refine blk_alloc ?_ _)); exact BK102.out⟩, ⟨by repeat (first | (with_reducible first | exact HB.out | apply below_alloc | apply pw_below_drewN | apply below_drew1 | refine below_set ?_ GE102.out) | exact HB.out)⟩⟩
          · rw [if_neg c9] at H
            exact absurd H (by simp)
        · rw [if_neg c8] at H
          have c8b0 : decide (x1_1 ≤ 65536) = false := decide_eq_false c8
          clear c8
          obtain rfl := Option.some.inj H
          have hcz13_0 : wr.cell? ⟨gb102, 0, none⟩ = some (.int .i64 a0_0) := (blk_cell BK102.out 0).trans rfl
          have hcz13_1 : wr.cell? ⟨gb102, 1, none⟩ = some (.int .i64 a0_1) := (blk_cell BK102.out 1).trans rfl
          have hcz13_2 : wr.cell? ⟨gb102, 2, none⟩ = some (.slice A0_2 l0_2.length c0_2) := (blk_cell BK102.out 2).trans rfl
          have hcz13_3 : wr.cell? ⟨gb102, 3, none⟩ = some (.int .i64 a0_3) := (blk_cell BK102.out 3).trans rfl
          have hcz13_4 : wr.cell? ⟨gb102, 4, none⟩ = some (.int .i64 a0_4) := (blk_cell BK102.out 4).trans rfl
          have hcz13_5 : wr.cell? ⟨gb102, 5, none⟩ = some (.slice A0_5 l0_5.length c0_5) := (blk_cell BK102.out 5).trans rfl
          have hcz13_6 : wr.cell? ⟨gb102, 6, none⟩ = some (.slice A0_6 l0_6.length c0_6) := (blk_cell BK102.out 6).trans rfl
          have hfz13_0 := blk_frozen BK102.out 0
          have hfz13_1 := blk_frozen BK102.out 1
          have hfz13_2 := blk_frozen BK102.out 2
          have hfz13_3 := blk_frozen BK102.out 3
          have hfz13_4 := blk_frozen BK102.out 4
          have hfz13_5 := blk_frozen BK102.out 5
          have hfz13_6 := blk_frozen BK102.out 6
          go_wp2
          go_ret
          exact ⟨by first | rfl | (simp [Nat.add_zero] <;> rfl) | (simp only [← hji3, ← hji4]; first | rfl | (simp [Nat.add_zero] <;> rfl)) | (simp [*, Nat.add_zero] <;> rfl), by repeat (first | (with_reducible first | exact HB.out | apply below_alloc | apply pw_below_drewN | apply below_drew1 | refine below_set ?_ GE102.out) | exact HB.out)⟩
      · rw [if_neg c7] at H
        have c7b0 : decide (x5_1 < (l0_6.length : Int)) = false := decide_eq_false c7
        clear c7
        obtain rfl := Option.some.inj H
        have hcz14_0 : wr.cell? ⟨gb102, 0, none⟩ = some (.int .i64 a0_0) := (blk_cell BK102.out 0).trans rfl
        have hcz14_1 : wr.cell? ⟨gb102, 1, none⟩ = some (.int .i64 a0_1) := (blk_cell BK102.out 1).trans rfl
        have hcz14_2 : wr.cell? ⟨gb102, 2, none⟩ = some (.slice A0_2 l0_2.length c0_2) := (blk_cell BK102.out 2).trans rfl
        have hcz14_3 : wr.cell? ⟨gb102, 3, none⟩ = some (.int .i64 a0_3) := (blk_cell BK102.out 3).trans rfl
        have hcz14_4 : wr.cell? ⟨gb102, 4, none⟩ = some (.int .i64 a0_4) := (blk_cell BK102.out 4).trans rfl
        have hcz14_5 : wr.cell? ⟨gb102, 5, none⟩ = some (.slice A0_5 l0_5.length c0_5) := (blk_cell BK102.out 5).trans rfl
        have hcz14_6 : wr.cell? ⟨gb102, 6, none⟩ = some (.slice A0_6 l0_6.length c0_6) := (blk_cell BK102.out 6).trans rfl
        have hfz14_0 := blk_frozen BK102.out 0
        have hfz14_1 := blk_frozen BK102.out 1
        have hfz14_2 := blk_frozen BK102.out 2
        have hfz14_3 := blk_frozen BK102.out 3
        have hfz14_4 := blk_frozen BK102.out 4
        have hfz14_5 := blk_frozen BK102.out 5
        have hfz14_6 := blk_frozen BK102.out 6
        go_wp2
        go_ret
        exact ⟨by first | rfl | (simp [Nat.add_zero] <;> rfl) | (simp only [← hji3, ← hji4]; first | rfl | (simp [Nat.add_zero] <;> rfl)) | (simp [*, Nat.add_zero] <;> rfl), by repeat (first | (with_reducible first | exact HB.out | apply below_alloc | apply pw_below_drewN | apply below_drew1 | refine below_set ?_ GE102.out) | exact HB.out)⟩


/-! ### laws_isHeavy -/
def laws_isHeavy.l0 : Nat → List (Val) → Int → Int → Option (Bool)
  | 0, _, _, _ => none
  | k + 1, x0, x3, x4 => if x4 < (x0.length : Int) then (if x3 ≤ 65536 then (if 0 ≤ x4 then ((laws_weigh.f k ((rd_Val x0 x4).f0) ((rd_Val x0 x4).f1) ((rd_Val x0 x4).f2) ((rd_Val x0 x4).f3) ((rd_Val x0 x4).f4) ((rd_Val x0 x4).f5) ((rd_Val x0 x4).f6) x3).bind fun t106 => (laws_isHeavy.l0 k x0 t106 (wrap64 (x4 + 1)))) else (none)) else (some (decide (x3 > 65536)))) else (some (decide (x3 > 65536)))
def laws_isHeavy.f (k : Nat) (l0 : List (Val)) : Option (Bool) := laws_isHeavy.l0 k l0 0 0
theorem laws_isHeavy.mono_l : ∀ k, (∀ y0 y1 y2, LeO (laws_isHeavy.l0 k y0 y1 y2) (laws_isHeavy.l0 (k + 1) y0 y1 y2))
  | 0 => fun _ _ _ r h => by simp [laws_isHeavy.l0] at h
  | k + 1 => by
    have ih0 := laws_isHeavy.mono_l k
    · intro y0 y1 y2
      unfold laws_isHeavy.l0
      repeat' first
      | (with_reducible exact ih0 _ _ _)
      | (with_reducible exact laws_weigh.mono _ _ _ _ _ _ _ _ _)
      | (with_reducible exact LeO.refl _)
      | (with_reducible exact LeO.none _)
      | (with_reducible refine LeO.ite ?_ ?_)
      | (with_reducible refine LeO.bind ?_ (fun _ => ?_))
      | exact ih0 _ _ _
      | exact laws_weigh.mono _ _ _ _ _ _ _ _ _
      | exact LeO.none _
      | refine LeO.ite ?_ ?_
      | refine LeO.bind ?_ (fun _ => ?_)
theorem laws_isHeavy.mono : ∀ a0 k, LeO (laws_isHeavy.f k a0) (laws_isHeavy.f (k + 1) a0) := by
  intro a0 k
  have ih0 := laws_isHeavy.mono_l k
  unfold laws_isHeavy.f
  repeat' first
      | (with_reducible exact ih0 _ _ _)
      | (with_reducible exact laws_weigh.mono _ _ _ _ _ _ _ _ _)
      | (with_reducible exact LeO.refl _)
      | (with_reducible exact LeO.none _)
      | (with_reducible refine LeO.ite ?_ ?_)
      | (with_reducible refine LeO.bind ?_ (fun _ => ?_))
      | exact ih0 _ _ _
      | exact laws_weigh.mono _ _ _ _ _ _ _ _ _
      | exact LeO.none _
      | refine LeO.ite ?_ ?_
      | refine LeO.bind ?_ (fun _ => ?_)
set_option maxHeartbeats 8000000 in
set_option maxRecDepth 100000 in
theorem laws_isHeavy.calls (k : Nat) (A0 : Option Addr) (c0 : Nat) (l0 : List (Val)) (r : Bool) (w : World) (hr0 : Kd.C kVal w A0 l0.length l0) (hc0 : l0.length ≤ c0) (h : laws_isHeavy.f k l0 = some r) :
    Calls Tryz.prog 9 #[.slice A0 l0.length c0] w fun e w' => e = .returned (.bool r) ∧ Below w.heap.size w w' := by
  have hu28 := Tryz.underlying28
  have HR0 := Aside0.mk hr0
  have HC0 := Aside0.mk hc0
  clear hr0 hc0
  have HB := Aside0.mk (Below.refl w.heap.size w)
  have H : (laws_isHeavy.l0 k l0 0 0) = some r := h
  clear h
  have H' := Aside0.mk H
  clear H
  go_enter Tryz.func9, Tryz.ntmps9
  go_wp2
  go_loopg [3, 4] k (fun kq v3 v4 w' => ∃ (x3_1 : Int) (x4_1 : Int), v3 = .int .i64 x3_1 ∧ v4 = .int .i64 x4_1 ∧ Aside0 (laws_isHeavy.l0 kq l0 x3_1 x4_1 = some r) ∧ Aside0 (kq ≤ k) ∧ Aside0 (Below w.heap.size w w'))
  case atStart => exact ⟨(0), (0), (by first | rfl | (simp; done) | (simp [*]; done)), (by first | rfl | (simp; done) | (simp [*]; done)), H', ⟨Nat.le_refl _⟩, ⟨by repeat (first | (with_reducible first | exact HB.out | apply below_alloc | apply pw_below_drewN | apply below_drew1) | exact HB.out)⟩⟩
  case round =>
    clear H'
    obtain ⟨x3_1, x4_1, rfl, rfl, HA, HK1, HB⟩ := hrel
    cases gk with
    | zero => exact absurd HA.out (by simp [laws_isHeavy.l0])
    | succ k1 =>
      have H := HA.out
      clear HA
      simp only [laws_isHeavy.l0] at H
      by_cases c2 : x4_1 < (l0.length : Int)
      · rw [if_pos c2] at H
        have c2b0 : decide (x4_1 < (l0.length : Int)) = true := decide_eq_true c2
        clear c2
        by_cases c3 : x3_1 ≤ 65536
        · rw [if_pos c3] at H
          have c3b0 : decide (x3_1 ≤ 65536) = true := decide_eq_true c3
          clear c3
          by_cases c4 : 0 ≤ x4_1
          · rw [if_pos c4] at H
            have c4b0 : decide (0 ≤ x4_1) = true := decide_eq_true c4
            clear c4
            replace H := Option.bind_eq_some_iff.mp H
            obtain ⟨t106, A50, H⟩ := H
            replace H : (laws_isHeavy.l0 k1 l0 t106 (wrap64 (x4_1 + 1))) = some r := H
            have A5 := Aside0.mk A50
            clear A50
            have H' := Aside0.mk H
            clear H
            have p105 : 0 ≤ (x4_1 : Int) := of_decide_eq_true (by first | (with_reducible assumption) | assumption)
            have q105 : x4_1 < (l0.length : Int) := of_decide_eq_true (by first | (with_reducible assumption) | assumption)
            obtain ⟨ad105, A105_2, c105_2, A105_5, c105_5, A105_6, c105_6, e105, hx105_0, hx105_1, hx105_2, hx105_3, hx105_4, hx105_5, hx105_6, hl105_2, hi105_2, hl105_5, hi105_5, hl105_6, hi105_6⟩ := at_Val HR0.out x4_1 p105 q105
            cases e105
            replace hx105_0 := (HB.out.cell (World.block_lt_of_cell? w _ hx105_0)).trans hx105_0
            replace hx105_1 := (HB.out.cell (World.block_lt_of_cell? w _ hx105_1)).trans hx105_1
            replace hx105_2 := (HB.out.cell (World.block_lt_of_cell? w _ hx105_2)).trans hx105_2
            replace hx105_3 := (HB.out.cell (World.block_lt_of_cell? w _ hx105_3)).trans hx105_3
            replace hx105_4 := (HB.out.cell (World.block_lt_of_cell? w _ hx105_4)).trans hx105_4
            replace hx105_5 := (HB.out.cell (World.block_lt_of_cell? w _ hx105_5)).trans hx105_5
            replace hx105_6 := (HB.out.cell (World.block_lt_of_cell? w _ hx105_6)).trans hx105_6
            have HR105_2 := Aside0.mk hi105_2
            have HC105_2 := Aside0.mk hl105_2
            clear hi105_2 hl105_2
            have HR105_5 := Aside0.mk hi105_5
            have HC105_5 := Aside0.mk hl105_5
            clear hi105_5 hl105_5
            have HR105_6 := Aside0.mk hi105_6
            have HC105_6 := Aside0.mk hl105_6
            clear hi105_6 hl105_6
            replace p105 := eq_true p105
            replace q105 := eq_true q105
            go_wp2_with (first | ((with_reducible refine gate_callee (f := 22) rfl ?_); refine goesL_ (some 20) rfl rfl Tryz.func22 (by kernel_rfl) rfl #[.agg #[.int .i64 ((rd_Val l0 x4_1).f0), .int .i64 ((rd_Val l0 x4_1).f1), .slice A105_2 ((rd_Val l0 x4_1).f2).length c105_2, .int .i64 ((rd_Val l0 x4_1).f3), .int .i64 ((rd_Val l0 x4_1).f4), .slice A105_5 ((rd_Val l0 x4_1).f5).length c105_5, .slice A105_6 ((rd_Val l0 x4_1).f6).length c105_6], .int .i64 x3_1] rfl (by (try simp only [List.map_toArray, List.map_cons, List.map_nil]); first | done | rfl | (simp only [List.length_drop, List.length_take]; rfl)) ?_; (with_reducible refine (laws_weigh.calls k1 ((rd_Val l0 x4_1).f0) ((rd_Val l0 x4_1).f1) _ _ ((rd_Val l0 x4_1).f2) ((rd_Val l0 x4_1).f3) ((rd_Val l0 x4_1).f4) _ _ ((rd_Val l0 x4_1).f5) _ _ ((rd_Val l0 x4_1).f6) x3_1 t106 _ ?side1 ?side2 ?side3 ?side4 ?side5 ?side6 A5.out).mono ?_); (case side1 => repeat (first | exact (Kd.C_below HR105_2.out HB.out) | (with_reducible refine Kd.C_alloc ?_ _) | (with_reducible refine Kd.C_drewN ?_ _) | (with_reducible refine Kd.C_drew ?_))); (case side2 => exact HC105_2.out); (case side3 => repeat (first | exact (Kd.C_below HR105_5.out HB.out) | (with_reducible refine Kd.C_alloc ?_ _) | (with_reducible refine Kd.C_drewN ?_ _) | (with_reducible refine Kd.C_drew ?_))); (case side4 => exact HC105_5.out); (case side5 => repeat (first | exact (Kd.C_below HR105_6.out HB.out) | (with_reducible refine Kd.C_alloc ?_ _) | (with_reducible refine Kd.C_drewN ?_ _) | (with_reducible refine Kd.C_drew ?_))); (case side6 => exact HC105_6.out); rintro e w6 ⟨rfl, hb⟩; refine ⟨_, rfl, ?_⟩; have n0_ := Aside0.mk (below_step (by repeat (first | (with_reducible first | exact HB.out | apply below_alloc | apply pw_below_drewN | apply below_drew1) | exact HB.out)) hb); clear HB; have HB := n0_; clear n0_; (try clear hb); (try clear hb2); (try clear hk); (try clear hi)))
            go_roundg k1
            case measure => have := HK1.out; omega
            case rel => exact ⟨(t106), (wrap64 (x4_1 + 1)), (by first | rfl | (simp; done) | (simp [*]; done)), (by first | rfl | (simp; done) | (simp [*]; done)), H', ⟨by have := HK1.out; omega⟩, ⟨by repeat (first | (with_reducible first | exact HB.out | apply below_alloc | apply pw_below_drewN | apply below_drew1) | exact HB.out)⟩⟩
          · rw [if_neg c4] at H
            exact absurd H (by simp)
        · rw [if_neg c3] at H
          have c3b0 : decide (x3_1 ≤ 65536) = false := decide_eq_false c3
          clear c3
          obtain rfl := Option.some.inj H
          go_wp2
          go_ret
          exact ⟨by first | rfl | (simp [Nat.add_zero] <;> rfl) | (simp [*, Nat.add_zero] <;> rfl), by repeat (first | (with_reducible first | exact HB.out | apply below_alloc | apply pw_below_drewN | apply below_drew1) | exact HB.out)⟩
      · rw [if_neg c2] at H
        have c2b0 : decide (x4_1 < (l0.length : Int)) = false := decide_eq_false c2
        clear c2
        obtain rfl := Option.some.inj H
        go_wp2
        go_ret
        exact ⟨by first | rfl | (simp [Nat.add_zero] <;> rfl) | (simp [*, Nat.add_zero] <;> rfl), by repeat (first | (with_reducible first | exact HB.out | apply below_alloc | apply pw_below_drewN | apply below_drew1) | exact HB.out)⟩


/-! ### laws_isType -/
def laws_isType.f (a0 : Int) : Option (Bool) := if a0 = 2 then (some true) else (if a0 = 3 then (some true) else (if a0 = 4 then (some true) else (if a0 = 6 then (some true) else (if a0 = 8 then (some true) else (if a0 = 10 then (some true) else (if a0 ≥ 11 then (some (decide (a0 ≤ 16))) else (some false)))))))
set_option maxHeartbeats 8000000 in
set_option maxRecDepth 100000 in
theorem laws_isType.calls (a0 : Int) (r : Bool) (w : World) (h : laws_isType.f a0 = some r) :
    Calls Tryz.prog 23 #[.int .i64 a0] w fun e w' => e = .returned (.bool r) ∧ Drawn0 w w' := by
  have H : (if a0 = 2 then (some true) else (if a0 = 3 then (some true) else (if a0 = 4 then (some true) else (if a0 = 6 then (some true) else (if a0 = 8 then (some true) else (if a0 = 10 then (some true) else (if a0 ≥ 11 then (some (decide (a0 ≤ 16))) else (some false)))))))) = some r := h
  clear h
  by_cases c2 : a0 = 2
  · rw [if_pos c2] at H
    have c2b0 : (a0 == 2) = true := beq_iff_eq.mpr c2
    have c2b1 : (a0 != 2) = false := bne_eq_false_iff_eq.mpr c2
    clear c2
    obtain rfl := Option.some.inj H
    go_enter Tryz.func23, Tryz.ntmps23
    go_wp2
    go_ret
    exact ⟨by first | rfl | (simp; done) | (simp [*]; done), by repeat (first | exact Drawn0.refl _ | apply Drawn0.step)⟩
  · rw [if_neg c2] at H
    have c2b0 : (a0 == 2) = false := beq_eq_false_iff_ne.mpr c2
    have c2b1 : (a0 != 2) = true := bne_iff_ne.mpr c2
    by_cases c3 : a0 = 3
    · rw [if_pos c3] at H
      have c3b0 : (a0 == 3) = true := beq_iff_eq.mpr c3
      have c3b1 : (a0 != 3) = false := bne_eq_false_iff_eq.mpr c3
      clear c3
      obtain rfl := Option.some.inj H
      go_enter Tryz.func23, Tryz.ntmps23
      go_wp2
      go_ret
      exact ⟨by first | rfl | (simp; done) | (simp [*]; done), by repeat (first | exact Drawn0.refl _ | apply Drawn0.step)⟩
    · rw [if_neg c3] at H
      have c3b0 : (a0 == 3) = false := beq_eq_false_iff_ne.mpr c3
      have c3b1 : (a0 != 3) = true := bne_iff_ne.mpr c3
      by_cases c4 : a0 = 4
      · rw [if_pos c4] at H
        have c4b0 : (a0 == 4) = true := beq_iff_eq.mpr c4
        have c4b1 : (a0 != 4) = false := bne_eq_false_iff_eq.mpr c4
        clear c4
        obtain rfl := Option.some.inj H
        go_enter Tryz.func23, Tryz.ntmps23
        go_wp2
        go_ret
        exact ⟨by first | rfl | (simp; done) | (simp [*]; done), by repeat (first | exact Drawn0.refl _ | apply Drawn0.step)⟩
      · rw [if_neg c4] at H
        have c4b0 : (a0 == 4) = false := beq_eq_false_iff_ne.mpr c4
        have c4b1 : (a0 != 4) = true := bne_iff_ne.mpr c4
        by_cases c5 : a0 = 6
        · rw [if_pos c5] at H
          have c5b0 : (a0 == 6) = true := beq_iff_eq.mpr c5
          have c5b1 : (a0 != 6) = false := bne_eq_false_iff_eq.mpr c5
          clear c5
          obtain rfl := Option.some.inj H
          go_enter Tryz.func23, Tryz.ntmps23
          go_wp2
          go_ret
          exact ⟨by first | rfl | (simp; done) | (simp [*]; done), by repeat (first | exact Drawn0.refl _ | apply Drawn0.step)⟩
        · rw [if_neg c5] at H
          have c5b0 : (a0 == 6) = false := beq_eq_false_iff_ne.mpr c5
          have c5b1 : (a0 != 6) = true := bne_iff_ne.mpr c5
          by_cases c6 : a0 = 8
          · rw [if_pos c6] at H
            have c6b0 : (a0 == 8) = true := beq_iff_eq.mpr c6
            have c6b1 : (a0 != 8) = false := bne_eq_false_iff_eq.mpr c6
            clear c6
            obtain rfl := Option.some.inj H
            go_enter Tryz.func23, Tryz.ntmps23
            go_wp2
            go_ret
            exact ⟨by first | rfl | (simp; done) | (simp [*]; done), by repeat (first | exact Drawn0.refl _ | apply Drawn0.step)⟩
          · rw [if_neg c6] at H
            have c6b0 : (a0 == 8) = false := beq_eq_false_iff_ne.mpr c6
            have c6b1 : (a0 != 8) = true := bne_iff_ne.mpr c6
            by_cases c7 : a0 = 10
            · rw [if_pos c7] at H
              have c7b0 : (a0 == 10) = true := beq_iff_eq.mpr c7
              have c7b1 : (a0 != 10) = false := bne_eq_false_iff_eq.mpr c7
              clear c7
              obtain rfl := Option.some.inj H
              go_enter Tryz.func23, Tryz.ntmps23
              go_wp2
              go_ret
              exact ⟨by first | rfl | (simp; done) | (simp [*]; done), by repeat (first | exact Drawn0.refl _ | apply Drawn0.step)⟩
            · rw [if_neg c7] at H
              have c7b0 : (a0 == 10) = false := beq_eq_false_iff_ne.mpr c7
              have c7b1 : (a0 != 10) = true := bne_iff_ne.mpr c7
              by_cases c8 : a0 ≥ 11
              · rw [if_pos c8] at H
                have c8b0 : decide (11 ≤ a0) = true := decide_eq_true c8
                clear c8
                obtain rfl := Option.some.inj H
                go_enter Tryz.func23, Tryz.ntmps23
                go_wp2
                go_ret
                exact ⟨by first | rfl | (simp; done) | (simp [*]; done), by repeat (first | exact Drawn0.refl _ | apply Drawn0.step)⟩
              · rw [if_neg c8] at H
                have c8b0 : decide (11 ≤ a0) = false := decide_eq_false c8
                clear c8
                obtain rfl := Option.some.inj H
                go_enter Tryz.func23, Tryz.ntmps23
                go_wp2
                go_ret
                exact ⟨by first | rfl | (simp; done) | (simp [*]; done), by repeat (first | exact Drawn0.refl _ | apply Drawn0.step)⟩


end Go.Proofs.YtnpiheoglilcbaaGreatDoor

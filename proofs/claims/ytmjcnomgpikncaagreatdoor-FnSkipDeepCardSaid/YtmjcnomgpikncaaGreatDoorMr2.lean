/- The laws' helpers on numbers, types and configurations. No condition. -/
import Derived.Test.YtmjcnomgpikncaaGreatDoorMc
import Derived.Below
import Derived.Deep.Draws
import Derived.Deep.AppendLies
import Derived.Maps.AppendAt
import Derived.OwnWalk
import Derived.Laws.BytesArg
import Derived.Laws.MakeOwn
import Derived.Laws.OwnMore
import Derived.Deep.OwnRows
import Derived.Tactics
import Derived.Lib.ConvBytes
import Derived.Laws.Slices
import Derived.WalkKit
import Derived.KernelRfl
import Derived.RowKit3
import Derived.Deep.LoopGhost
import Derived.Deep.QuietTactic
import Derived.BigQuiet
import Derived.WideLaws
import Derived.Deep.DeepCutAuto
import Derived.Deep.CutBlock
import Derived.Deep.RegionHeld3
import Derived.Laws.Rows
import Derived.Lib.AppendStr
import Derived.ArgAppend
import Derived.Laws.IdiomCopy
import Derived.OrdersHeld
import Derived.Laws.BitsLemmas
import Derived.RowKit
import Derived.Test.YtmjcnomgpikncaaGreatDoorMw1
import Derived.Test.YtmjcnomgpikncaaGreatDoorMw2
/-! Types of values. Turned by a program (wip/tools/own.py) from what the kit's print says of these functions. -/
namespace Go.Proofs.YtmjcnomgpikncaaGreatDoor

open Go.RowKit Go.Proofs.YtmjcnomgpikncaaGreatDoorW.PrintWords Go.Proofs.YtmjcnomgpikncaaGreatDoorW.PrintLast Go.Proofs.YtmjcnomgpikncaaGreatDoorW.PrintMore

attribute [local go_sem] max2_int min2_int max_two min_two max_three min_three max_four min_four

set_option linter.unusedVariables false

set_option linter.unusedSimpArgs false

/-! ### laws_isType -/

def laws_isType.f (a0 : Int) : Option (Bool) := if a0 = 2 then (some true) else (if a0 = 3 then (some true) else (if a0 = 4 then (some true) else (if a0 = 6 then (some true) else (if a0 = 8 then (some true) else (if a0 = 10 then (some true) else (if a0 ≥ 11 then (some (decide (a0 ≤ 16))) else (some false)))))))

set_option maxHeartbeats 8000000 in
set_option maxRecDepth 100000 in
theorem laws_isType.calls (a0 : Int) (r : Bool) (w : World) (h : laws_isType.f a0 = some r) :
 Calls Tryz.prog 32 #[.int .i64 a0] w fun e w' => e = .returned (.bool r) ∧ Drawn0 w w' := by
 have H : (if a0 = 2 then (some true) else (if a0 = 3 then (some true) else (if a0 = 4 then (some true) else (if a0 = 6 then (some true) else (if a0 = 8 then (some true) else (if a0 = 10 then (some true) else (if a0 ≥ 11 then (some (decide (a0 ≤ 16))) else (some false)))))))) = some r := h
 clear h
 by_cases c2 : a0 = 2
 · rw [if_pos c2] at H
   have c2b0 : (a0 == 2) = true := beq_iff_eq.mpr c2
   have c2b1 : (a0 != 2) = false := bne_eq_false_iff_eq.mpr c2
   clear c2
   obtain rfl := Option.some.inj H
   go_enter Tryz.func32, Tryz.ntmps32
   go_wp2
   go_ret
   exact ⟨by first | rfl | (simp; done) | (simp [*]; done), by repeat (first | exact Drawn0.refl _ | apply Drawn0.step)⟩
 · rw [if_neg c2] at H
   have c2b0 : (a0 == 2) = false := beq_eq_false_iff_ne.mpr c2
   have c2b1 : (a0 != 2) = true := bne_iff_ne.mpr c2
   by_cases c3 : a0 = 3
   · rw [if_pos c3] at H
     have c3b0 : (a0 == 3) = true := beq_iff_eq.mpr c3
     have c3b1 : (a0 != 3) = false := bne_eq_false_iff_eq.mpr c3
     clear c3
     obtain rfl := Option.some.inj H
     go_enter Tryz.func32, Tryz.ntmps32
     go_wp2
     go_ret
     exact ⟨by first | rfl | (simp; done) | (simp [*]; done), by repeat (first | exact Drawn0.refl _ | apply Drawn0.step)⟩
   · rw [if_neg c3] at H
     have c3b0 : (a0 == 3) = false := beq_eq_false_iff_ne.mpr c3
     have c3b1 : (a0 != 3) = true := bne_iff_ne.mpr c3
     by_cases c4 : a0 = 4
     · rw [if_pos c4] at H
       have c4b0 : (a0 == 4) = true := beq_iff_eq.mpr c4
       have c4b1 : (a0 != 4) = false := bne_eq_false_iff_eq.mpr c4
       clear c4
       obtain rfl := Option.some.inj H
       go_enter Tryz.func32, Tryz.ntmps32
       go_wp2
       go_ret
       exact ⟨by first | rfl | (simp; done) | (simp [*]; done), by repeat (first | exact Drawn0.refl _ | apply Drawn0.step)⟩
     · rw [if_neg c4] at H
       have c4b0 : (a0 == 4) = false := beq_eq_false_iff_ne.mpr c4
       have c4b1 : (a0 != 4) = true := bne_iff_ne.mpr c4
       by_cases c5 : a0 = 6
       · rw [if_pos c5] at H
         have c5b0 : (a0 == 6) = true := beq_iff_eq.mpr c5
         have c5b1 : (a0 != 6) = false := bne_eq_false_iff_eq.mpr c5
         clear c5
         obtain rfl := Option.some.inj H
         go_enter Tryz.func32, Tryz.ntmps32
         go_wp2
         go_ret
         exact ⟨by first | rfl | (simp; done) | (simp [*]; done), by repeat (first | exact Drawn0.refl _ | apply Drawn0.step)⟩
       · rw [if_neg c5] at H
         have c5b0 : (a0 == 6) = false := beq_eq_false_iff_ne.mpr c5
         have c5b1 : (a0 != 6) = true := bne_iff_ne.mpr c5
         by_cases c6 : a0 = 8
         · rw [if_pos c6] at H
           have c6b0 : (a0 == 8) = true := beq_iff_eq.mpr c6
           have c6b1 : (a0 != 8) = false := bne_eq_false_iff_eq.mpr c6
           clear c6
           obtain rfl := Option.some.inj H
           go_enter Tryz.func32, Tryz.ntmps32
           go_wp2
           go_ret
           exact ⟨by first | rfl | (simp; done) | (simp [*]; done), by repeat (first | exact Drawn0.refl _ | apply Drawn0.step)⟩
         · rw [if_neg c6] at H
           have c6b0 : (a0 == 8) = false := beq_eq_false_iff_ne.mpr c6
           have c6b1 : (a0 != 8) = true := bne_iff_ne.mpr c6
           by_cases c7 : a0 = 10
           · rw [if_pos c7] at H
             have c7b0 : (a0 == 10) = true := beq_iff_eq.mpr c7
             have c7b1 : (a0 != 10) = false := bne_eq_false_iff_eq.mpr c7
             clear c7
             obtain rfl := Option.some.inj H
             go_enter Tryz.func32, Tryz.ntmps32
             go_wp2
             go_ret
             exact ⟨by first | rfl | (simp; done) | (simp [*]; done), by repeat (first | exact Drawn0.refl _ | apply Drawn0.step)⟩
           · rw [if_neg c7] at H
             have c7b0 : (a0 == 10) = false := beq_eq_false_iff_ne.mpr c7
             have c7b1 : (a0 != 10) = true := bne_iff_ne.mpr c7
             by_cases c8 : a0 ≥ 11
             · rw [if_pos c8] at H
               have c8b0 : decide (11 ≤ a0) = true := decide_eq_true c8
               clear c8
               obtain rfl := Option.some.inj H
               go_enter Tryz.func32, Tryz.ntmps32
               go_wp2
               go_ret
               exact ⟨by first | rfl | (simp; done) | (simp [*]; done), by repeat (first | exact Drawn0.refl _ | apply Drawn0.step)⟩
             · rw [if_neg c8] at H
               have c8b0 : decide (11 ≤ a0) = false := decide_eq_false c8
               clear c8
               obtain rfl := Option.some.inj H
               go_enter Tryz.func32, Tryz.ntmps32
               go_wp2
               go_ret
               exact ⟨by first | rfl | (simp; done) | (simp [*]; done), by repeat (first | exact Drawn0.refl _ | apply Drawn0.step)⟩

end Go.Proofs.YtmjcnomgpikncaaGreatDoor

/-! Wide configurations. Turned by a program (wip/tools/own3.py) from what the kit's print says of these functions. -/
namespace Go.Proofs.YtmjcnomgpikncaaGreatDoor

open Go.RowKit Go.Proofs.YtmjcnomgpikncaaGreatDoorW.PrintWords Go.Proofs.YtmjcnomgpikncaaGreatDoorW.PrintLast Go.Proofs.YtmjcnomgpikncaaGreatDoorW.PrintMore

attribute [local go_sem] max2_int min2_int max_two min_two max_three min_three max_four min_four

set_option linter.unusedVariables false

set_option linter.unusedSimpArgs false

/-! ### laws_isWide -/

def laws_isWide.f (a0_0 : Int) (a0_1 : Bool) (a0_2 : Bool) (a0_3 : Bool) (a0_4 : Int) (a0_5 : Int) (a0_6 : Int) : Option (Bool) := if a0_1 = true then (some true) else (if a0_4 ≤ 0 then (if a0_5 ≤ 0 then (if a0_6 ≤ 0 then (some true) else (some (decide (a0_6 > 1048576)))) else (if a0_5 > 65536 then (if a0_6 ≤ 0 then (some true) else (some (decide (a0_6 > 1048576)))) else (some false))) else (if a0_4 > 1048576 then (if a0_5 ≤ 0 then (if a0_6 ≤ 0 then (some true) else (some (decide (a0_6 > 1048576)))) else (if a0_5 > 65536 then (if a0_6 ≤ 0 then (some true) else (some (decide (a0_6 > 1048576)))) else (some false))) else (some false)))

set_option maxHeartbeats 8000000 in
set_option maxRecDepth 100000 in
theorem laws_isWide.calls (a0_0 : Int) (a0_1 : Bool) (a0_2 : Bool) (a0_3 : Bool) (a0_4 : Int) (a0_5 : Int) (a0_6 : Int) (r : Bool) (w : World) (h : laws_isWide.f a0_0 a0_1 a0_2 a0_3 a0_4 a0_5 a0_6 = some r) :
 Calls Tryz.prog 15 #[.agg #[.int .i64 a0_0, .bool a0_1, .bool a0_2, .bool a0_3, .int .i32 a0_4, .int .i32 a0_5, .int .i32 a0_6]] w fun e w' => e = .returned (.bool r) ∧ Below w.heap.size w w' := by
 have hu23 := Tryz.underlying23
 have HB := Aside0.mk (Below.refl w.heap.size w)
 have H : (if a0_1 = true then (some true) else (if a0_4 ≤ 0 then (if a0_5 ≤ 0 then (if a0_6 ≤ 0 then (some true) else (some (decide (a0_6 > 1048576)))) else (if a0_5 > 65536 then (if a0_6 ≤ 0 then (some true) else (some (decide (a0_6 > 1048576)))) else (some false))) else (if a0_4 > 1048576 then (if a0_5 ≤ 0 then (if a0_6 ≤ 0 then (some true) else (some (decide (a0_6 > 1048576)))) else (if a0_5 > 65536 then (if a0_6 ≤ 0 then (some true) else (some (decide (a0_6 > 1048576)))) else (some false))) else (some false)))) = some r := h
 clear h
 by_cases c2 : a0_1 = true
 · subst c2
   have H1 : (some true) = some r := by rw [if_pos rfl] at H; exact H
   clear H
   have H := H1
   clear H1
   obtain rfl := Option.some.inj H
   go_enter Tryz.func15, Tryz.ntmps15
   go_wp2_with (first | ((with_reducible refine gate_dst (N := 1) rfl ?_); refine box_event ?hg (N := 1) ?hd (cs := #[.int .i64 a0_0, .bool true, .bool a0_2, .bool a0_3, .int .i32 a0_4, .int .i32 a0_5, .int .i32 a0_6]) (t := 23) ?hr ?_; (case hd => rfl); (case hg => rfl); (case hr => first | (go_simp; done) | (go_simp; rfl)); intro gb118 hg w3 hbox hb; have n0_ := Aside0.mk (below_step (by repeat (first | (with_reducible first | exact HB.out | apply below_alloc | apply pw_below_drewN | apply below_drew1) | exact HB.out)) hb); have n1_ := Aside0.mk (hbox); have n2_ := Aside0.mk ((by rw [hg]; exact (below_size (by repeat (first | (with_reducible first | exact HB.out | apply below_alloc | apply pw_below_drewN | apply below_drew1) | exact HB.out))) : w.heap.size ≤ gb118)); have n3_ := Aside0.mk ((by rw [hg]; exact (below_size (by repeat (first | (with_reducible first | exact HB.out | apply below_alloc | apply pw_below_drewN | apply below_drew1) | exact HB.out))) : w.heap.size ≤ gb118)); clear HB; have HB := n0_; have BK118 := n1_; have GW118 := n2_; have GE118 := n3_; clear n0_ n1_ n2_ n3_; clear hb hbox hg; have hcz4_0 : w3.cell? ⟨gb118, 0, none⟩ = some (.int .i64 a0_0) := (blk_cell BK118.out 0).trans rfl; have hcz4_1 : w3.cell? ⟨gb118, 1, none⟩ = some (.bool true) := (blk_cell BK118.out 1).trans rfl; have hcz4_2 : w3.cell? ⟨gb118, 2, none⟩ = some (.bool a0_2) := (blk_cell BK118.out 2).trans rfl; have hcz4_3 : w3.cell? ⟨gb118, 3, none⟩ = some (.bool a0_3) := (blk_cell BK118.out 3).trans rfl; have hcz4_4 : w3.cell? ⟨gb118, 4, none⟩ = some (.int .i32 a0_4) := (blk_cell BK118.out 4).trans rfl; have hcz4_5 : w3.cell? ⟨gb118, 5, none⟩ = some (.int .i32 a0_5) := (blk_cell BK118.out 5).trans rfl; have hcz4_6 : w3.cell? ⟨gb118, 6, none⟩ = some (.int .i32 a0_6) := (blk_cell BK118.out 6).trans rfl; have hfz4_0 := blk_frozen BK118.out 0; have hfz4_1 := blk_frozen BK118.out 1; have hfz4_2 := blk_frozen BK118.out 2; have hfz4_3 := blk_frozen BK118.out 3; have hfz4_4 := blk_frozen BK118.out 4; have hfz4_5 := blk_frozen BK118.out 5; have hfz4_6 := blk_frozen BK118.out 6))
   go_ret
   exact ⟨by first | rfl | (simp [Nat.add_zero] <;> rfl) | (simp [*, Nat.add_zero] <;> rfl), by repeat (first | (with_reducible first | exact HB.out | apply below_alloc | apply pw_below_drewN | apply below_drew1 | refine below_set ?_ GE118.out) | exact HB.out)⟩
 · replace c2 := Bool.eq_false_iff.mpr c2
   subst c2
   have H1 : (if a0_4 ≤ 0 then (if a0_5 ≤ 0 then (if a0_6 ≤ 0 then (some true) else (some (decide (a0_6 > 1048576)))) else (if a0_5 > 65536 then (if a0_6 ≤ 0 then (some true) else (some (decide (a0_6 > 1048576)))) else (some false))) else (if a0_4 > 1048576 then (if a0_5 ≤ 0 then (if a0_6 ≤ 0 then (some true) else (some (decide (a0_6 > 1048576)))) else (if a0_5 > 65536 then (if a0_6 ≤ 0 then (some true) else (some (decide (a0_6 > 1048576)))) else (some false))) else (some false))) = some r := by rw [if_neg (show ¬ (false = true) by decide)] at H; exact H
   clear H
   have H := H1
   clear H1
   by_cases c5 : a0_4 ≤ 0
   · rw [if_pos c5] at H
     have c5b0 : decide (a0_4 ≤ 0) = true := decide_eq_true c5
     clear c5
     by_cases c6 : a0_5 ≤ 0
     · rw [if_pos c6] at H
       have c6b0 : decide (a0_5 ≤ 0) = true := decide_eq_true c6
       clear c6
       by_cases c7 : a0_6 ≤ 0
       · rw [if_pos c7] at H
         have c7b0 : decide (a0_6 ≤ 0) = true := decide_eq_true c7
         clear c7
         obtain rfl := Option.some.inj H
         go_enter Tryz.func15, Tryz.ntmps15
         go_wp2_with (first | ((with_reducible refine gate_dst (N := 1) rfl ?_); refine box_event ?hg (N := 1) ?hd (cs := #[.int .i64 a0_0, .bool false, .bool a0_2, .bool a0_3, .int .i32 a0_4, .int .i32 a0_5, .int .i32 a0_6]) (t := 23) ?hr ?_; (case hd => rfl); (case hg => rfl); (case hr => first | (go_simp; done) | (go_simp; rfl)); intro gb118 hg w8 hbox hb; have n0_ := Aside0.mk (below_step (by repeat (first | (with_reducible first | exact HB.out | apply below_alloc | apply pw_below_drewN | apply below_drew1) | exact HB.out)) hb); have n1_ := Aside0.mk (hbox); have n2_ := Aside0.mk ((by rw [hg]; exact (below_size (by repeat (first | (with_reducible first | exact HB.out | apply below_alloc | apply pw_below_drewN | apply below_drew1) | exact HB.out))) : w.heap.size ≤ gb118)); have n3_ := Aside0.mk ((by rw [hg]; exact (below_size (by repeat (first | (with_reducible first | exact HB.out | apply below_alloc | apply pw_below_drewN | apply below_drew1) | exact HB.out))) : w.heap.size ≤ gb118)); clear HB; have HB := n0_; have BK118 := n1_; have GW118 := n2_; have GE118 := n3_; clear n0_ n1_ n2_ n3_; clear hb hbox hg; have hcz9_0 : w8.cell? ⟨gb118, 0, none⟩ = some (.int .i64 a0_0) := (blk_cell BK118.out 0).trans rfl; have hcz9_1 : w8.cell? ⟨gb118, 1, none⟩ = some (.bool false) := (blk_cell BK118.out 1).trans rfl; have hcz9_2 : w8.cell? ⟨gb118, 2, none⟩ = some (.bool a0_2) := (blk_cell BK118.out 2).trans rfl; have hcz9_3 : w8.cell? ⟨gb118, 3, none⟩ = some (.bool a0_3) := (blk_cell BK118.out 3).trans rfl; have hcz9_4 : w8.cell? ⟨gb118, 4, none⟩ = some (.int .i32 a0_4) := (blk_cell BK118.out 4).trans rfl; have hcz9_5 : w8.cell? ⟨gb118, 5, none⟩ = some (.int .i32 a0_5) := (blk_cell BK118.out 5).trans rfl; have hcz9_6 : w8.cell? ⟨gb118, 6, none⟩ = some (.int .i32 a0_6) := (blk_cell BK118.out 6).trans rfl; have hfz9_0 := blk_frozen BK118.out 0; have hfz9_1 := blk_frozen BK118.out 1; have hfz9_2 := blk_frozen BK118.out 2; have hfz9_3 := blk_frozen BK118.out 3; have hfz9_4 := blk_frozen BK118.out 4; have hfz9_5 := blk_frozen BK118.out 5; have hfz9_6 := blk_frozen BK118.out 6))
         go_ret
         exact ⟨by first | rfl | (simp [Nat.add_zero] <;> rfl) | (simp [*, Nat.add_zero] <;> rfl), by repeat (first | (with_reducible first | exact HB.out | apply below_alloc | apply pw_below_drewN | apply below_drew1 | refine below_set ?_ GE118.out) | exact HB.out)⟩
       · rw [if_neg c7] at H
         have c7b0 : decide (a0_6 ≤ 0) = false := decide_eq_false c7
         clear c7
         obtain rfl := Option.some.inj H
         go_enter Tryz.func15, Tryz.ntmps15
         go_wp2_with (first | ((with_reducible refine gate_dst (N := 1) rfl ?_); refine box_event ?hg (N := 1) ?hd (cs := #[.int .i64 a0_0, .bool false, .bool a0_2, .bool a0_3, .int .i32 a0_4, .int .i32 a0_5, .int .i32 a0_6]) (t := 23) ?hr ?_; (case hd => rfl); (case hg => rfl); (case hr => first | (go_simp; done) | (go_simp; rfl)); intro gb118 hg w10 hbox hb; have n0_ := Aside0.mk (below_step (by repeat (first | (with_reducible first | exact HB.out | apply below_alloc | apply pw_below_drewN | apply below_drew1) | exact HB.out)) hb); have n1_ := Aside0.mk (hbox); have n2_ := Aside0.mk ((by rw [hg]; exact (below_size (by repeat (first | (with_reducible first | exact HB.out | apply below_alloc | apply pw_below_drewN | apply below_drew1) | exact HB.out))) : w.heap.size ≤ gb118)); have n3_ := Aside0.mk ((by rw [hg]; exact (below_size (by repeat (first | (with_reducible first | exact HB.out | apply below_alloc | apply pw_below_drewN | apply below_drew1) | exact HB.out))) : w.heap.size ≤ gb118)); clear HB; have HB := n0_; have BK118 := n1_; have GW118 := n2_; have GE118 := n3_; clear n0_ n1_ n2_ n3_; clear hb hbox hg; have hcz11_0 : w10.cell? ⟨gb118, 0, none⟩ = some (.int .i64 a0_0) := (blk_cell BK118.out 0).trans rfl; have hcz11_1 : w10.cell? ⟨gb118, 1, none⟩ = some (.bool false) := (blk_cell BK118.out 1).trans rfl; have hcz11_2 : w10.cell? ⟨gb118, 2, none⟩ = some (.bool a0_2) := (blk_cell BK118.out 2).trans rfl; have hcz11_3 : w10.cell? ⟨gb118, 3, none⟩ = some (.bool a0_3) := (blk_cell BK118.out 3).trans rfl; have hcz11_4 : w10.cell? ⟨gb118, 4, none⟩ = some (.int .i32 a0_4) := (blk_cell BK118.out 4).trans rfl; have hcz11_5 : w10.cell? ⟨gb118, 5, none⟩ = some (.int .i32 a0_5) := (blk_cell BK118.out 5).trans rfl; have hcz11_6 : w10.cell? ⟨gb118, 6, none⟩ = some (.int .i32 a0_6) := (blk_cell BK118.out 6).trans rfl; have hfz11_0 := blk_frozen BK118.out 0; have hfz11_1 := blk_frozen BK118.out 1; have hfz11_2 := blk_frozen BK118.out 2; have hfz11_3 := blk_frozen BK118.out 3; have hfz11_4 := blk_frozen BK118.out 4; have hfz11_5 := blk_frozen BK118.out 5; have hfz11_6 := blk_frozen BK118.out 6))
         go_ret
         exact ⟨by first | rfl | (simp [Nat.add_zero] <;> rfl) | (simp [*, Nat.add_zero] <;> rfl), by repeat (first | (with_reducible first | exact HB.out | apply below_alloc | apply pw_below_drewN | apply below_drew1 | refine below_set ?_ GE118.out) | exact HB.out)⟩
     · rw [if_neg c6] at H
       have c6b0 : decide (a0_5 ≤ 0) = false := decide_eq_false c6
       clear c6
       by_cases c12 : a0_5 > 65536
       · rw [if_pos c12] at H
         have c12b0 : decide (65536 < a0_5) = true := decide_eq_true c12
         clear c12
         by_cases c13 : a0_6 ≤ 0
         · rw [if_pos c13] at H
           have c13b0 : decide (a0_6 ≤ 0) = true := decide_eq_true c13
           clear c13
           obtain rfl := Option.some.inj H
           go_enter Tryz.func15, Tryz.ntmps15
           go_wp2_with (first | ((with_reducible refine gate_dst (N := 1) rfl ?_); refine box_event ?hg (N := 1) ?hd (cs := #[.int .i64 a0_0, .bool false, .bool a0_2, .bool a0_3, .int .i32 a0_4, .int .i32 a0_5, .int .i32 a0_6]) (t := 23) ?hr ?_; (case hd => rfl); (case hg => rfl); (case hr => first | (go_simp; done) | (go_simp; rfl)); intro gb118 hg w14 hbox hb; have n0_ := Aside0.mk (below_step (by repeat (first | (with_reducible first | exact HB.out | apply below_alloc | apply pw_below_drewN | apply below_drew1) | exact HB.out)) hb); have n1_ := Aside0.mk (hbox); have n2_ := Aside0.mk ((by rw [hg]; exact (below_size (by repeat (first | (with_reducible first | exact HB.out | apply below_alloc | apply pw_below_drewN | apply below_drew1) | exact HB.out))) : w.heap.size ≤ gb118)); have n3_ := Aside0.mk ((by rw [hg]; exact (below_size (by repeat (first | (with_reducible first | exact HB.out | apply below_alloc | apply pw_below_drewN | apply below_drew1) | exact HB.out))) : w.heap.size ≤ gb118)); clear HB; have HB := n0_; have BK118 := n1_; have GW118 := n2_; have GE118 := n3_; clear n0_ n1_ n2_ n3_; clear hb hbox hg; have hcz15_0 : w14.cell? ⟨gb118, 0, none⟩ = some (.int .i64 a0_0) := (blk_cell BK118.out 0).trans rfl; have hcz15_1 : w14.cell? ⟨gb118, 1, none⟩ = some (.bool false) := (blk_cell BK118.out 1).trans rfl; have hcz15_2 : w14.cell? ⟨gb118, 2, none⟩ = some (.bool a0_2) := (blk_cell BK118.out 2).trans rfl; have hcz15_3 : w14.cell? ⟨gb118, 3, none⟩ = some (.bool a0_3) := (blk_cell BK118.out 3).trans rfl; have hcz15_4 : w14.cell? ⟨gb118, 4, none⟩ = some (.int .i32 a0_4) := (blk_cell BK118.out 4).trans rfl; have hcz15_5 : w14.cell? ⟨gb118, 5, none⟩ = some (.int .i32 a0_5) := (blk_cell BK118.out 5).trans rfl; have hcz15_6 : w14.cell? ⟨gb118, 6, none⟩ = some (.int .i32 a0_6) := (blk_cell BK118.out 6).trans rfl; have hfz15_0 := blk_frozen BK118.out 0; have hfz15_1 := blk_frozen BK118.out 1; have hfz15_2 := blk_frozen BK118.out 2; have hfz15_3 := blk_frozen BK118.out 3; have hfz15_4 := blk_frozen BK118.out 4; have hfz15_5 := blk_frozen BK118.out 5; have hfz15_6 := blk_frozen BK118.out 6))
           go_ret
           exact ⟨by first | rfl | (simp [Nat.add_zero] <;> rfl) | (simp [*, Nat.add_zero] <;> rfl), by repeat (first | (with_reducible first | exact HB.out | apply below_alloc | apply pw_below_drewN | apply below_drew1 | refine below_set ?_ GE118.out) | exact HB.out)⟩
         · rw [if_neg c13] at H
           have c13b0 : decide (a0_6 ≤ 0) = false := decide_eq_false c13
           clear c13
           obtain rfl := Option.some.inj H
           go_enter Tryz.func15, Tryz.ntmps15
           go_wp2_with (first | ((with_reducible refine gate_dst (N := 1) rfl ?_); refine box_event ?hg (N := 1) ?hd (cs := #[.int .i64 a0_0, .bool false, .bool a0_2, .bool a0_3, .int .i32 a0_4, .int .i32 a0_5, .int .i32 a0_6]) (t := 23) ?hr ?_; (case hd => rfl); (case hg => rfl); (case hr => first | (go_simp; done) | (go_simp; rfl)); intro gb118 hg w16 hbox hb; have n0_ := Aside0.mk (below_step (by repeat (first | (with_reducible first | exact HB.out | apply below_alloc | apply pw_below_drewN | apply below_drew1) | exact HB.out)) hb); have n1_ := Aside0.mk (hbox); have n2_ := Aside0.mk ((by rw [hg]; exact (below_size (by repeat (first | (with_reducible first | exact HB.out | apply below_alloc | apply pw_below_drewN | apply below_drew1) | exact HB.out))) : w.heap.size ≤ gb118)); have n3_ := Aside0.mk ((by rw [hg]; exact (below_size (by repeat (first | (with_reducible first | exact HB.out | apply below_alloc | apply pw_below_drewN | apply below_drew1) | exact HB.out))) : w.heap.size ≤ gb118)); clear HB; have HB := n0_; have BK118 := n1_; have GW118 := n2_; have GE118 := n3_; clear n0_ n1_ n2_ n3_; clear hb hbox hg; have hcz17_0 : w16.cell? ⟨gb118, 0, none⟩ = some (.int .i64 a0_0) := (blk_cell BK118.out 0).trans rfl; have hcz17_1 : w16.cell? ⟨gb118, 1, none⟩ = some (.bool false) := (blk_cell BK118.out 1).trans rfl; have hcz17_2 : w16.cell? ⟨gb118, 2, none⟩ = some (.bool a0_2) := (blk_cell BK118.out 2).trans rfl; have hcz17_3 : w16.cell? ⟨gb118, 3, none⟩ = some (.bool a0_3) := (blk_cell BK118.out 3).trans rfl; have hcz17_4 : w16.cell? ⟨gb118, 4, none⟩ = some (.int .i32 a0_4) := (blk_cell BK118.out 4).trans rfl; have hcz17_5 : w16.cell? ⟨gb118, 5, none⟩ = some (.int .i32 a0_5) := (blk_cell BK118.out 5).trans rfl; have hcz17_6 : w16.cell? ⟨gb118, 6, none⟩ = some (.int .i32 a0_6) := (blk_cell BK118.out 6).trans rfl; have hfz17_0 := blk_frozen BK118.out 0; have hfz17_1 := blk_frozen BK118.out 1; have hfz17_2 := blk_frozen BK118.out 2; have hfz17_3 := blk_frozen BK118.out 3; have hfz17_4 := blk_frozen BK118.out 4; have hfz17_5 := blk_frozen BK118.out 5; have hfz17_6 := blk_frozen BK118.out 6))
           go_ret
           exact ⟨by first | rfl | (simp [Nat.add_zero] <;> rfl) | (simp [*, Nat.add_zero] <;> rfl), by repeat (first | (with_reducible first | exact HB.out | apply below_alloc | apply pw_below_drewN | apply below_drew1 | refine below_set ?_ GE118.out) | exact HB.out)⟩
       · rw [if_neg c12] at H
         have c12b0 : decide (65536 < a0_5) = false := decide_eq_false c12
         clear c12
         obtain rfl := Option.some.inj H
         go_enter Tryz.func15, Tryz.ntmps15
         go_wp2_with (first | ((with_reducible refine gate_dst (N := 1) rfl ?_); refine box_event ?hg (N := 1) ?hd (cs := #[.int .i64 a0_0, .bool false, .bool a0_2, .bool a0_3, .int .i32 a0_4, .int .i32 a0_5, .int .i32 a0_6]) (t := 23) ?hr ?_; (case hd => rfl); (case hg => rfl); (case hr => first | (go_simp; done) | (go_simp; rfl)); intro gb118 hg w18 hbox hb; have n0_ := Aside0.mk (below_step (by repeat (first | (with_reducible first | exact HB.out | apply below_alloc | apply pw_below_drewN | apply below_drew1) | exact HB.out)) hb); have n1_ := Aside0.mk (hbox); have n2_ := Aside0.mk ((by rw [hg]; exact (below_size (by repeat (first | (with_reducible first | exact HB.out | apply below_alloc | apply pw_below_drewN | apply below_drew1) | exact HB.out))) : w.heap.size ≤ gb118)); have n3_ := Aside0.mk ((by rw [hg]; exact (below_size (by repeat (first | (with_reducible first | exact HB.out | apply below_alloc | apply pw_below_drewN | apply below_drew1) | exact HB.out))) : w.heap.size ≤ gb118)); clear HB; have HB := n0_; have BK118 := n1_; have GW118 := n2_; have GE118 := n3_; clear n0_ n1_ n2_ n3_; clear hb hbox hg; have hcz19_0 : w18.cell? ⟨gb118, 0, none⟩ = some (.int .i64 a0_0) := (blk_cell BK118.out 0).trans rfl; have hcz19_1 : w18.cell? ⟨gb118, 1, none⟩ = some (.bool false) := (blk_cell BK118.out 1).trans rfl; have hcz19_2 : w18.cell? ⟨gb118, 2, none⟩ = some (.bool a0_2) := (blk_cell BK118.out 2).trans rfl; have hcz19_3 : w18.cell? ⟨gb118, 3, none⟩ = some (.bool a0_3) := (blk_cell BK118.out 3).trans rfl; have hcz19_4 : w18.cell? ⟨gb118, 4, none⟩ = some (.int .i32 a0_4) := (blk_cell BK118.out 4).trans rfl; have hcz19_5 : w18.cell? ⟨gb118, 5, none⟩ = some (.int .i32 a0_5) := (blk_cell BK118.out 5).trans rfl; have hcz19_6 : w18.cell? ⟨gb118, 6, none⟩ = some (.int .i32 a0_6) := (blk_cell BK118.out 6).trans rfl; have hfz19_0 := blk_frozen BK118.out 0; have hfz19_1 := blk_frozen BK118.out 1; have hfz19_2 := blk_frozen BK118.out 2; have hfz19_3 := blk_frozen BK118.out 3; have hfz19_4 := blk_frozen BK118.out 4; have hfz19_5 := blk_frozen BK118.out 5; have hfz19_6 := blk_frozen BK118.out 6))
         go_ret
         exact ⟨by first | rfl | (simp [Nat.add_zero] <;> rfl) | (simp [*, Nat.add_zero] <;> rfl), by repeat (first | (with_reducible first | exact HB.out | apply below_alloc | apply pw_below_drewN | apply below_drew1 | refine below_set ?_ GE118.out) | exact HB.out)⟩
   · rw [if_neg c5] at H
     have c5b0 : decide (a0_4 ≤ 0) = false := decide_eq_false c5
     clear c5
     by_cases c20 : a0_4 > 1048576
     · rw [if_pos c20] at H
       have c20b0 : decide (1048576 < a0_4) = true := decide_eq_true c20
       clear c20
       by_cases c21 : a0_5 ≤ 0
       · rw [if_pos c21] at H
         have c21b0 : decide (a0_5 ≤ 0) = true := decide_eq_true c21
         clear c21
         by_cases c22 : a0_6 ≤ 0
         · rw [if_pos c22] at H
           have c22b0 : decide (a0_6 ≤ 0) = true := decide_eq_true c22
           clear c22
           obtain rfl := Option.some.inj H
           go_enter Tryz.func15, Tryz.ntmps15
           go_wp2_with (first | ((with_reducible refine gate_dst (N := 1) rfl ?_); refine box_event ?hg (N := 1) ?hd (cs := #[.int .i64 a0_0, .bool false, .bool a0_2, .bool a0_3, .int .i32 a0_4, .int .i32 a0_5, .int .i32 a0_6]) (t := 23) ?hr ?_; (case hd => rfl); (case hg => rfl); (case hr => first | (go_simp; done) | (go_simp; rfl)); intro gb118 hg w23 hbox hb; have n0_ := Aside0.mk (below_step (by repeat (first | (with_reducible first | exact HB.out | apply below_alloc | apply pw_below_drewN | apply below_drew1) | exact HB.out)) hb); have n1_ := Aside0.mk (hbox); have n2_ := Aside0.mk ((by rw [hg]; exact (below_size (by repeat (first | (with_reducible first | exact HB.out | apply below_alloc | apply pw_below_drewN | apply below_drew1) | exact HB.out))) : w.heap.size ≤ gb118)); have n3_ := Aside0.mk ((by rw [hg]; exact (below_size (by repeat (first | (with_reducible first | exact HB.out | apply below_alloc | apply pw_below_drewN | apply below_drew1) | exact HB.out))) : w.heap.size ≤ gb118)); clear HB; have HB := n0_; have BK118 := n1_; have GW118 := n2_; have GE118 := n3_; clear n0_ n1_ n2_ n3_; clear hb hbox hg; have hcz24_0 : w23.cell? ⟨gb118, 0, none⟩ = some (.int .i64 a0_0) := (blk_cell BK118.out 0).trans rfl; have hcz24_1 : w23.cell? ⟨gb118, 1, none⟩ = some (.bool false) := (blk_cell BK118.out 1).trans rfl; have hcz24_2 : w23.cell? ⟨gb118, 2, none⟩ = some (.bool a0_2) := (blk_cell BK118.out 2).trans rfl; have hcz24_3 : w23.cell? ⟨gb118, 3, none⟩ = some (.bool a0_3) := (blk_cell BK118.out 3).trans rfl; have hcz24_4 : w23.cell? ⟨gb118, 4, none⟩ = some (.int .i32 a0_4) := (blk_cell BK118.out 4).trans rfl; have hcz24_5 : w23.cell? ⟨gb118, 5, none⟩ = some (.int .i32 a0_5) := (blk_cell BK118.out 5).trans rfl; have hcz24_6 : w23.cell? ⟨gb118, 6, none⟩ = some (.int .i32 a0_6) := (blk_cell BK118.out 6).trans rfl; have hfz24_0 := blk_frozen BK118.out 0; have hfz24_1 := blk_frozen BK118.out 1; have hfz24_2 := blk_frozen BK118.out 2; have hfz24_3 := blk_frozen BK118.out 3; have hfz24_4 := blk_frozen BK118.out 4; have hfz24_5 := blk_frozen BK118.out 5; have hfz24_6 := blk_frozen BK118.out 6))
           go_ret
           exact ⟨by first | rfl | (simp [Nat.add_zero] <;> rfl) | (simp [*, Nat.add_zero] <;> rfl), by repeat (first | (with_reducible first | exact HB.out | apply below_alloc | apply pw_below_drewN | apply below_drew1 | refine below_set ?_ GE118.out) | exact HB.out)⟩
         · rw [if_neg c22] at H
           have c22b0 : decide (a0_6 ≤ 0) = false := decide_eq_false c22
           clear c22
           obtain rfl := Option.some.inj H
           go_enter Tryz.func15, Tryz.ntmps15
           go_wp2_with (first | ((with_reducible refine gate_dst (N := 1) rfl ?_); refine box_event ?hg (N := 1) ?hd (cs := #[.int .i64 a0_0, .bool false, .bool a0_2, .bool a0_3, .int .i32 a0_4, .int .i32 a0_5, .int .i32 a0_6]) (t := 23) ?hr ?_; (case hd => rfl); (case hg => rfl); (case hr => first | (go_simp; done) | (go_simp; rfl)); intro gb118 hg w25 hbox hb; have n0_ := Aside0.mk (below_step (by repeat (first | (with_reducible first | exact HB.out | apply below_alloc | apply pw_below_drewN | apply below_drew1) | exact HB.out)) hb); have n1_ := Aside0.mk (hbox); have n2_ := Aside0.mk ((by rw [hg]; exact (below_size (by repeat (first | (with_reducible first | exact HB.out | apply below_alloc | apply pw_below_drewN | apply below_drew1) | exact HB.out))) : w.heap.size ≤ gb118)); have n3_ := Aside0.mk ((by rw [hg]; exact (below_size (by repeat (first | (with_reducible first | exact HB.out | apply below_alloc | apply pw_below_drewN | apply below_drew1) | exact HB.out))) : w.heap.size ≤ gb118)); clear HB; have HB := n0_; have BK118 := n1_; have GW118 := n2_; have GE118 := n3_; clear n0_ n1_ n2_ n3_; clear hb hbox hg; have hcz26_0 : w25.cell? ⟨gb118, 0, none⟩ = some (.int .i64 a0_0) := (blk_cell BK118.out 0).trans rfl; have hcz26_1 : w25.cell? ⟨gb118, 1, none⟩ = some (.bool false) := (blk_cell BK118.out 1).trans rfl; have hcz26_2 : w25.cell? ⟨gb118, 2, none⟩ = some (.bool a0_2) := (blk_cell BK118.out 2).trans rfl; have hcz26_3 : w25.cell? ⟨gb118, 3, none⟩ = some (.bool a0_3) := (blk_cell BK118.out 3).trans rfl; have hcz26_4 : w25.cell? ⟨gb118, 4, none⟩ = some (.int .i32 a0_4) := (blk_cell BK118.out 4).trans rfl; have hcz26_5 : w25.cell? ⟨gb118, 5, none⟩ = some (.int .i32 a0_5) := (blk_cell BK118.out 5).trans rfl; have hcz26_6 : w25.cell? ⟨gb118, 6, none⟩ = some (.int .i32 a0_6) := (blk_cell BK118.out 6).trans rfl; have hfz26_0 := blk_frozen BK118.out 0; have hfz26_1 := blk_frozen BK118.out 1; have hfz26_2 := blk_frozen BK118.out 2; have hfz26_3 := blk_frozen BK118.out 3; have hfz26_4 := blk_frozen BK118.out 4; have hfz26_5 := blk_frozen BK118.out 5; have hfz26_6 := blk_frozen BK118.out 6))
           go_ret
           exact ⟨by first | rfl | (simp [Nat.add_zero] <;> rfl) | (simp [*, Nat.add_zero] <;> rfl), by repeat (first | (with_reducible first | exact HB.out | apply below_alloc | apply pw_below_drewN | apply below_drew1 | refine below_set ?_ GE118.out) | exact HB.out)⟩
       · rw [if_neg c21] at H
         have c21b0 : decide (a0_5 ≤ 0) = false := decide_eq_false c21
         clear c21
         by_cases c27 : a0_5 > 65536
         · rw [if_pos c27] at H
           have c27b0 : decide (65536 < a0_5) = true := decide_eq_true c27
           clear c27
           by_cases c28 : a0_6 ≤ 0
           · rw [if_pos c28] at H
             have c28b0 : decide (a0_6 ≤ 0) = true := decide_eq_true c28
             clear c28
             obtain rfl := Option.some.inj H
             go_enter Tryz.func15, Tryz.ntmps15
             go_wp2_with (first | ((with_reducible refine gate_dst (N := 1) rfl ?_); refine box_event ?hg (N := 1) ?hd (cs := #[.int .i64 a0_0, .bool false, .bool a0_2, .bool a0_3, .int .i32 a0_4, .int .i32 a0_5, .int .i32 a0_6]) (t := 23) ?hr ?_; (case hd => rfl); (case hg => rfl); (case hr => first | (go_simp; done) | (go_simp; rfl)); intro gb118 hg w29 hbox hb; have n0_ := Aside0.mk (below_step (by repeat (first | (with_reducible first | exact HB.out | apply below_alloc | apply pw_below_drewN | apply below_drew1) | exact HB.out)) hb); have n1_ := Aside0.mk (hbox); have n2_ := Aside0.mk ((by rw [hg]; exact (below_size (by repeat (first | (with_reducible first | exact HB.out | apply below_alloc | apply pw_below_drewN | apply below_drew1) | exact HB.out))) : w.heap.size ≤ gb118)); have n3_ := Aside0.mk ((by rw [hg]; exact (below_size (by repeat (first | (with_reducible first | exact HB.out | apply below_alloc | apply pw_below_drewN | apply below_drew1) | exact HB.out))) : w.heap.size ≤ gb118)); clear HB; have HB := n0_; have BK118 := n1_; have GW118 := n2_; have GE118 := n3_; clear n0_ n1_ n2_ n3_; clear hb hbox hg; have hcz30_0 : w29.cell? ⟨gb118, 0, none⟩ = some (.int .i64 a0_0) := (blk_cell BK118.out 0).trans rfl; have hcz30_1 : w29.cell? ⟨gb118, 1, none⟩ = some (.bool false) := (blk_cell BK118.out 1).trans rfl; have hcz30_2 : w29.cell? ⟨gb118, 2, none⟩ = some (.bool a0_2) := (blk_cell BK118.out 2).trans rfl; have hcz30_3 : w29.cell? ⟨gb118, 3, none⟩ = some (.bool a0_3) := (blk_cell BK118.out 3).trans rfl; have hcz30_4 : w29.cell? ⟨gb118, 4, none⟩ = some (.int .i32 a0_4) := (blk_cell BK118.out 4).trans rfl; have hcz30_5 : w29.cell? ⟨gb118, 5, none⟩ = some (.int .i32 a0_5) := (blk_cell BK118.out 5).trans rfl; have hcz30_6 : w29.cell? ⟨gb118, 6, none⟩ = some (.int .i32 a0_6) := (blk_cell BK118.out 6).trans rfl; have hfz30_0 := blk_frozen BK118.out 0; have hfz30_1 := blk_frozen BK118.out 1; have hfz30_2 := blk_frozen BK118.out 2; have hfz30_3 := blk_frozen BK118.out 3; have hfz30_4 := blk_frozen BK118.out 4; have hfz30_5 := blk_frozen BK118.out 5; have hfz30_6 := blk_frozen BK118.out 6))
             go_ret
             exact ⟨by first | rfl | (simp [Nat.add_zero] <;> rfl) | (simp [*, Nat.add_zero] <;> rfl), by repeat (first | (with_reducible first | exact HB.out | apply below_alloc | apply pw_below_drewN | apply below_drew1 | refine below_set ?_ GE118.out) | exact HB.out)⟩
           · rw [if_neg c28] at H
             have c28b0 : decide (a0_6 ≤ 0) = false := decide_eq_false c28
             clear c28
             obtain rfl := Option.some.inj H
             go_enter Tryz.func15, Tryz.ntmps15
             go_wp2_with (first | ((with_reducible refine gate_dst (N := 1) rfl ?_); refine box_event ?hg (N := 1) ?hd (cs := #[.int .i64 a0_0, .bool false, .bool a0_2, .bool a0_3, .int .i32 a0_4, .int .i32 a0_5, .int .i32 a0_6]) (t := 23) ?hr ?_; (case hd => rfl); (case hg => rfl); (case hr => first | (go_simp; done) | (go_simp; rfl)); intro gb118 hg w31 hbox hb; have n0_ := Aside0.mk (below_step (by repeat (first | (with_reducible first | exact HB.out | apply below_alloc | apply pw_below_drewN | apply below_drew1) | exact HB.out)) hb); have n1_ := Aside0.mk (hbox); have n2_ := Aside0.mk ((by rw [hg]; exact (below_size (by repeat (first | (with_reducible first | exact HB.out | apply below_alloc | apply pw_below_drewN | apply below_drew1) | exact HB.out))) : w.heap.size ≤ gb118)); have n3_ := Aside0.mk ((by rw [hg]; exact (below_size (by repeat (first | (with_reducible first | exact HB.out | apply below_alloc | apply pw_below_drewN | apply below_drew1) | exact HB.out))) : w.heap.size ≤ gb118)); clear HB; have HB := n0_; have BK118 := n1_; have GW118 := n2_; have GE118 := n3_; clear n0_ n1_ n2_ n3_; clear hb hbox hg; have hcz32_0 : w31.cell? ⟨gb118, 0, none⟩ = some (.int .i64 a0_0) := (blk_cell BK118.out 0).trans rfl; have hcz32_1 : w31.cell? ⟨gb118, 1, none⟩ = some (.bool false) := (blk_cell BK118.out 1).trans rfl; have hcz32_2 : w31.cell? ⟨gb118, 2, none⟩ = some (.bool a0_2) := (blk_cell BK118.out 2).trans rfl; have hcz32_3 : w31.cell? ⟨gb118, 3, none⟩ = some (.bool a0_3) := (blk_cell BK118.out 3).trans rfl; have hcz32_4 : w31.cell? ⟨gb118, 4, none⟩ = some (.int .i32 a0_4) := (blk_cell BK118.out 4).trans rfl; have hcz32_5 : w31.cell? ⟨gb118, 5, none⟩ = some (.int .i32 a0_5) := (blk_cell BK118.out 5).trans rfl; have hcz32_6 : w31.cell? ⟨gb118, 6, none⟩ = some (.int .i32 a0_6) := (blk_cell BK118.out 6).trans rfl; have hfz32_0 := blk_frozen BK118.out 0; have hfz32_1 := blk_frozen BK118.out 1; have hfz32_2 := blk_frozen BK118.out 2; have hfz32_3 := blk_frozen BK118.out 3; have hfz32_4 := blk_frozen BK118.out 4; have hfz32_5 := blk_frozen BK118.out 5; have hfz32_6 := blk_frozen BK118.out 6))
             go_ret
             exact ⟨by first | rfl | (simp [Nat.add_zero] <;> rfl) | (simp [*, Nat.add_zero] <;> rfl), by repeat (first | (with_reducible first | exact HB.out | apply below_alloc | apply pw_below_drewN | apply below_drew1 | refine below_set ?_ GE118.out) | exact HB.out)⟩
         · rw [if_neg c27] at H
           have c27b0 : decide (65536 < a0_5) = false := decide_eq_false c27
           clear c27
           obtain rfl := Option.some.inj H
           go_enter Tryz.func15, Tryz.ntmps15
           go_wp2_with (first | ((with_reducible refine gate_dst (N := 1) rfl ?_); refine box_event ?hg (N := 1) ?hd (cs := #[.int .i64 a0_0, .bool false, .bool a0_2, .bool a0_3, .int .i32 a0_4, .int .i32 a0_5, .int .i32 a0_6]) (t := 23) ?hr ?_; (case hd => rfl); (case hg => rfl); (case hr => first | (go_simp; done) | (go_simp; rfl)); intro gb118 hg w33 hbox hb; have n0_ := Aside0.mk (below_step (by repeat (first | (with_reducible first | exact HB.out | apply below_alloc | apply pw_below_drewN | apply below_drew1) | exact HB.out)) hb); have n1_ := Aside0.mk (hbox); have n2_ := Aside0.mk ((by rw [hg]; exact (below_size (by repeat (first | (with_reducible first | exact HB.out | apply below_alloc | apply pw_below_drewN | apply below_drew1) | exact HB.out))) : w.heap.size ≤ gb118)); have n3_ := Aside0.mk ((by rw [hg]; exact (below_size (by repeat (first | (with_reducible first | exact HB.out | apply below_alloc | apply pw_below_drewN | apply below_drew1) | exact HB.out))) : w.heap.size ≤ gb118)); clear HB; have HB := n0_; have BK118 := n1_; have GW118 := n2_; have GE118 := n3_; clear n0_ n1_ n2_ n3_; clear hb hbox hg; have hcz34_0 : w33.cell? ⟨gb118, 0, none⟩ = some (.int .i64 a0_0) := (blk_cell BK118.out 0).trans rfl; have hcz34_1 : w33.cell? ⟨gb118, 1, none⟩ = some (.bool false) := (blk_cell BK118.out 1).trans rfl; have hcz34_2 : w33.cell? ⟨gb118, 2, none⟩ = some (.bool a0_2) := (blk_cell BK118.out 2).trans rfl; have hcz34_3 : w33.cell? ⟨gb118, 3, none⟩ = some (.bool a0_3) := (blk_cell BK118.out 3).trans rfl; have hcz34_4 : w33.cell? ⟨gb118, 4, none⟩ = some (.int .i32 a0_4) := (blk_cell BK118.out 4).trans rfl; have hcz34_5 : w33.cell? ⟨gb118, 5, none⟩ = some (.int .i32 a0_5) := (blk_cell BK118.out 5).trans rfl; have hcz34_6 : w33.cell? ⟨gb118, 6, none⟩ = some (.int .i32 a0_6) := (blk_cell BK118.out 6).trans rfl; have hfz34_0 := blk_frozen BK118.out 0; have hfz34_1 := blk_frozen BK118.out 1; have hfz34_2 := blk_frozen BK118.out 2; have hfz34_3 := blk_frozen BK118.out 3; have hfz34_4 := blk_frozen BK118.out 4; have hfz34_5 := blk_frozen BK118.out 5; have hfz34_6 := blk_frozen BK118.out 6))
           go_ret
           exact ⟨by first | rfl | (simp [Nat.add_zero] <;> rfl) | (simp [*, Nat.add_zero] <;> rfl), by repeat (first | (with_reducible first | exact HB.out | apply below_alloc | apply pw_below_drewN | apply below_drew1 | refine below_set ?_ GE118.out) | exact HB.out)⟩
     · rw [if_neg c20] at H
       have c20b0 : decide (1048576 < a0_4) = false := decide_eq_false c20
       clear c20
       obtain rfl := Option.some.inj H
       go_enter Tryz.func15, Tryz.ntmps15
       go_wp2_with (first | ((with_reducible refine gate_dst (N := 1) rfl ?_); refine box_event ?hg (N := 1) ?hd (cs := #[.int .i64 a0_0, .bool false, .bool a0_2, .bool a0_3, .int .i32 a0_4, .int .i32 a0_5, .int .i32 a0_6]) (t := 23) ?hr ?_; (case hd => rfl); (case hg => rfl); (case hr => first | (go_simp; done) | (go_simp; rfl)); intro gb118 hg w35 hbox hb; have n0_ := Aside0.mk (below_step (by repeat (first | (with_reducible first | exact HB.out | apply below_alloc | apply pw_below_drewN | apply below_drew1) | exact HB.out)) hb); have n1_ := Aside0.mk (hbox); have n2_ := Aside0.mk ((by rw [hg]; exact (below_size (by repeat (first | (with_reducible first | exact HB.out | apply below_alloc | apply pw_below_drewN | apply below_drew1) | exact HB.out))) : w.heap.size ≤ gb118)); have n3_ := Aside0.mk ((by rw [hg]; exact (below_size (by repeat (first | (with_reducible first | exact HB.out | apply below_alloc | apply pw_below_drewN | apply below_drew1) | exact HB.out))) : w.heap.size ≤ gb118)); clear HB; have HB := n0_; have BK118 := n1_; have GW118 := n2_; have GE118 := n3_; clear n0_ n1_ n2_ n3_; clear hb hbox hg; have hcz36_0 : w35.cell? ⟨gb118, 0, none⟩ = some (.int .i64 a0_0) := (blk_cell BK118.out 0).trans rfl; have hcz36_1 : w35.cell? ⟨gb118, 1, none⟩ = some (.bool false) := (blk_cell BK118.out 1).trans rfl; have hcz36_2 : w35.cell? ⟨gb118, 2, none⟩ = some (.bool a0_2) := (blk_cell BK118.out 2).trans rfl; have hcz36_3 : w35.cell? ⟨gb118, 3, none⟩ = some (.bool a0_3) := (blk_cell BK118.out 3).trans rfl; have hcz36_4 : w35.cell? ⟨gb118, 4, none⟩ = some (.int .i32 a0_4) := (blk_cell BK118.out 4).trans rfl; have hcz36_5 : w35.cell? ⟨gb118, 5, none⟩ = some (.int .i32 a0_5) := (blk_cell BK118.out 5).trans rfl; have hcz36_6 : w35.cell? ⟨gb118, 6, none⟩ = some (.int .i32 a0_6) := (blk_cell BK118.out 6).trans rfl; have hfz36_0 := blk_frozen BK118.out 0; have hfz36_1 := blk_frozen BK118.out 1; have hfz36_2 := blk_frozen BK118.out 2; have hfz36_3 := blk_frozen BK118.out 3; have hfz36_4 := blk_frozen BK118.out 4; have hfz36_5 := blk_frozen BK118.out 5; have hfz36_6 := blk_frozen BK118.out 6))
       go_ret
       exact ⟨by first | rfl | (simp [Nat.add_zero] <;> rfl) | (simp [*, Nat.add_zero] <;> rfl), by repeat (first | (with_reducible first | exact HB.out | apply below_alloc | apply pw_below_drewN | apply below_drew1 | refine below_set ?_ GE118.out) | exact HB.out)⟩

end Go.Proofs.YtmjcnomgpikncaaGreatDoor

/-! Types and their numbers in the compact protocol. Turned by a program (wip/tools/own3.py) from what the kit's print says of these functions. -/
namespace Go.Proofs.YtmjcnomgpikncaaGreatDoor

open Go.RowKit Go.Proofs.YtmjcnomgpikncaaGreatDoorW.PrintWords Go.Proofs.YtmjcnomgpikncaaGreatDoorW.PrintLast Go.Proofs.YtmjcnomgpikncaaGreatDoorW.PrintMore

attribute [local go_sem] max2_int min2_int max_two min_two max_three min_three max_four min_four

set_option linter.unusedVariables false

set_option linter.unusedSimpArgs false

/-! ### laws_compactType -/

end Go.Proofs.YtmjcnomgpikncaaGreatDoor

/- The laws' helpers on numbers, types and configurations. No condition. -/
import Derived.Test.YtelocgemofghaaaGreatDoorMc
import Derived.Below
import Derived.Deep.Draws
import Derived.Deep.AppendLies
import Derived.Maps.AppendAt
import Derived.OwnWalk
import Derived.Laws.BytesArg
import Derived.Laws.MakeOwn
import Derived.Laws.OwnMore
import Derived.Deep.OwnRows
import Derived.Tactics
import Derived.Lib.ConvBytes
import Derived.Laws.Slices
import Derived.WalkKit
import Derived.KernelRfl
import Derived.RowKit3
import Derived.Deep.LoopGhost
import Derived.Deep.QuietTactic
import Derived.BigQuiet
import Derived.WideLaws
import Derived.Deep.DeepCutAuto
import Derived.Deep.CutBlock
import Derived.Deep.RegionHeld3
import Derived.Laws.Rows
import Derived.Lib.AppendStr
import Derived.ArgAppend
import Derived.Laws.IdiomCopy
import Derived.OrdersHeld
import Derived.Laws.BitsLemmas
import Derived.RowKit
import Derived.Test.YtelocgemofghaaaGreatDoorMw1
import Derived.Test.YtelocgemofghaaaGreatDoorMw2
import Derived.Test.YtelocgemofghaaaGreatDoorMr
/-! A configuration by another protocol. Turned by a program (wip/tools/own.py) from what the kit's print says of these functions. -/
namespace Go.Proofs.YtelocgemofghaaaGreatDoor

open Go.RowKit Go.Proofs.YtelocgemofghaaaGreatDoorW.PrintWords Go.Proofs.YtelocgemofghaaaGreatDoorW.PrintLast Go.Proofs.YtelocgemofghaaaGreatDoorW.PrintMore

attribute [local go_sem] max2_int min2_int max_two min_two max_three min_three max_four min_four

set_option linter.unusedVariables false

set_option linter.unusedSimpArgs false

/-! ### laws_by -/

def laws_by.f (a0 : Int) (a1_0 : Int) (a1_1 : Bool) (a1_2 : Bool) (a1_3 : Bool) (a1_4 : Int) (a1_5 : Int) (a1_6 : Int) : Option (Int × Bool × Bool × Bool × Int × Int × Int) := some (a0, a1_1, a1_2, a1_3, a1_4, a1_5, a1_6)

set_option maxHeartbeats 8000000 in
set_option maxRecDepth 100000 in
theorem laws_by.calls (a0 : Int) (a1_0 : Int) (a1_1 : Bool) (a1_2 : Bool) (a1_3 : Bool) (a1_4 : Int) (a1_5 : Int) (a1_6 : Int) (r1 : Int) (r2 : Bool) (r3 : Bool) (r4 : Bool) (r5 : Int) (r6 : Int) (r7 : Int) (w : World) (h : laws_by.f a0 a1_0 a1_1 a1_2 a1_3 a1_4 a1_5 a1_6 = some (r1, r2, r3, r4, r5, r6, r7)) :
    Calls Tryz.prog 17 #[.int .i64 a0, .agg #[.int .i64 a1_0, .bool a1_1, .bool a1_2, .bool a1_3, .int .i32 a1_4, .int .i32 a1_5, .int .i32 a1_6]] w fun e w' => e = .returned (.agg #[.int .i64 r1, .bool r2, .bool r3, .bool r4, .int .i32 r5, .int .i32 r6, .int .i32 r7]) ∧ Below w.heap.size w w' := by
  have hu23 := Tryz.underlying23
  have HB := Aside0.mk (Below.refl w.heap.size w)
  have H : (some (a0, a1_1, a1_2, a1_3, a1_4, a1_5, a1_6)) = some (r1, r2, r3, r4, r5, r6, r7) := h
  clear h
  simp only [Option.some.injEq, Prod.mk.injEq] at H
  obtain ⟨rfl, rfl, rfl, rfl, rfl, rfl, rfl⟩ := H
  go_enter Tryz.func17, Tryz.ntmps17
  go_wp2_with (first | ((with_reducible refine gate_dst (N := 3) rfl ?_); refine box_event ?hg (N := 3) ?hd (cs := #[.int .i64 a1_0, .bool a1_1, .bool a1_2, .bool a1_3, .int .i32 a1_4, .int .i32 a1_5, .int .i32 a1_6]) (t := 23) ?hr ?_; (case hd => rfl); (case hg => rfl); (case hr => first | (go_simp; done) | (go_simp; rfl)); intro gb126 hg w3 hbox hb; have n0_ := Aside0.mk (below_step (by repeat (first | (with_reducible first | exact HB.out | apply below_alloc | apply pw_below_drewN | apply below_drew1) | exact HB.out)) hb); have n1_ := Aside0.mk (hbox); have n2_ := Aside0.mk ((by rw [hg]; exact (below_size (by repeat (first | (with_reducible first | exact HB.out | apply below_alloc | apply pw_below_drewN | apply below_drew1) | exact HB.out))) : w.heap.size ≤ gb126)); have n3_ := Aside0.mk ((by rw [hg]; exact (below_size (by repeat (first | (with_reducible first | exact HB.out | apply below_alloc | apply pw_below_drewN | apply below_drew1) | exact HB.out))) : w.heap.size ≤ gb126)); clear HB; have HB := n0_; have BK126 := n1_; have GW126 := n2_; have GE126 := n3_; clear n0_ n1_ n2_ n3_; clear hb hbox hg) | ((with_reducible refine gate_dst (N := 4) rfl ?_); refine box_event ?hg (N := 4) ?hd (cs := #[.int .i64 0, .bool false, .bool false, .bool false, .int .i32 0, .int .i32 0, .int .i32 0]) (t := 23) ?hr ?_; (case hd => rfl); (case hg => rfl); (case hr => first | (go_simp; done) | (go_simp; rfl)); intro gb127 hg w4 hbox hb; have n0_ := Aside0.mk (blk_below (g := gb126) (o := .cells #[.int .i64 a1_0, .bool a1_1, .bool a1_2, .bool a1_3, .int .i32 a1_4, .int .i32 a1_5, .int .i32 a1_6] 23 (0, 0)) (by (with_reducible repeat (first | refine blk_drewN ?_ _ | refine blk_drew ?_ | refine blk_alloc ?_ _)); exact BK126.out) hb); have n1_ := Aside0.mk (below_step (by repeat (first | (with_reducible first | exact HB.out | apply below_alloc | apply pw_below_drewN | apply below_drew1 | refine below_set ?_ GE126.out) | exact HB.out)) hb); have n2_ := Aside0.mk (hbox); have n3_ := Aside0.mk ((by rw [hg]; exact (below_size (by repeat (first | (with_reducible first | exact HB.out | apply below_alloc | apply pw_below_drewN | apply below_drew1 | refine below_set ?_ GE126.out) | exact HB.out))) : w.heap.size ≤ gb127)); have n4_ := Aside0.mk ((by rw [hg]; exact (below_size (by repeat (first | (with_reducible first | exact HB.out | apply below_alloc | apply pw_below_drewN | apply below_drew1 | refine below_set ?_ GE126.out) | exact HB.out))) : w.heap.size ≤ gb127)); have n5_ := Aside0.mk ((by rw [hg]; exact Nat.ne_of_lt (blk_lt (g := gb126) (o := .cells #[.int .i64 a1_0, .bool a1_1, .bool a1_2, .bool a1_3, .int .i32 a1_4, .int .i32 a1_5, .int .i32 a1_6] 23 (0, 0)) (by (with_reducible repeat (first | refine blk_drewN ?_ _ | refine blk_drew ?_ | refine blk_alloc ?_ _)); exact BK126.out)) : gb126 ≠ gb127)); have n6_ := Aside0.mk ((by rw [hg]; exact Nat.ne_of_gt (blk_lt (g := gb126) (o := .cells #[.int .i64 a1_0, .bool a1_1, .bool a1_2, .bool a1_3, .int .i32 a1_4, .int .i32 a1_5, .int .i32 a1_6] 23 (0, 0)) (by (with_reducible repeat (first | refine blk_drewN ?_ _ | refine blk_drew ?_ | refine blk_alloc ?_ _)); exact BK126.out)) : gb127 ≠ gb126)); clear BK126; clear HB; have BK126 := n0_; have HB := n1_; have BK127 := n2_; have GW127 := n3_; have GE127 := n4_; have NB126_127 := n5_; have NB127_126 := n6_; clear n0_ n1_ n2_ n3_ n4_ n5_ n6_; clear hb hbox hg; have hnb5 := NB126_127.out; have hnc5 := NB127_126.out; have hcz6_0 : w4.cell? ⟨gb126, 0, none⟩ = some (.int .i64 a1_0) := (blk_cell BK126.out 0).trans rfl; have hcz6_1 : w4.cell? ⟨gb126, 1, none⟩ = some (.bool a1_1) := (blk_cell BK126.out 1).trans rfl; have hcz6_2 : w4.cell? ⟨gb126, 2, none⟩ = some (.bool a1_2) := (blk_cell BK126.out 2).trans rfl; have hcz6_3 : w4.cell? ⟨gb126, 3, none⟩ = some (.bool a1_3) := (blk_cell BK126.out 3).trans rfl; have hcz6_4 : w4.cell? ⟨gb126, 4, none⟩ = some (.int .i32 a1_4) := (blk_cell BK126.out 4).trans rfl; have hcz6_5 : w4.cell? ⟨gb126, 5, none⟩ = some (.int .i32 a1_5) := (blk_cell BK126.out 5).trans rfl; have hcz6_6 : w4.cell? ⟨gb126, 6, none⟩ = some (.int .i32 a1_6) := (blk_cell BK126.out 6).trans rfl; have hfz6_0 := blk_frozen BK126.out 0; have hfz6_1 := blk_frozen BK126.out 1; have hfz6_2 := blk_frozen BK126.out 2; have hfz6_3 := blk_frozen BK126.out 3; have hfz6_4 := blk_frozen BK126.out 4; have hfz6_5 := blk_frozen BK126.out 5; have hfz6_6 := blk_frozen BK126.out 6; have hcz7_0 : w4.cell? ⟨gb127, 0, none⟩ = some (.int .i64 0) := (blk_cell BK127.out 0).trans rfl; have hcz7_1 : w4.cell? ⟨gb127, 1, none⟩ = some (.bool false) := (blk_cell BK127.out 1).trans rfl; have hcz7_2 : w4.cell? ⟨gb127, 2, none⟩ = some (.bool false) := (blk_cell BK127.out 2).trans rfl; have hcz7_3 : w4.cell? ⟨gb127, 3, none⟩ = some (.bool false) := (blk_cell BK127.out 3).trans rfl; have hcz7_4 : w4.cell? ⟨gb127, 4, none⟩ = some (.int .i32 0) := (blk_cell BK127.out 4).trans rfl; have hcz7_5 : w4.cell? ⟨gb127, 5, none⟩ = some (.int .i32 0) := (blk_cell BK127.out 5).trans rfl; have hcz7_6 : w4.cell? ⟨gb127, 6, none⟩ = some (.int .i32 0) := (blk_cell BK127.out 6).trans rfl; have hfz7_0 := blk_frozen BK127.out 0; have hfz7_1 := blk_frozen BK127.out 1; have hfz7_2 := blk_frozen BK127.out 2; have hfz7_3 := blk_frozen BK127.out 3; have hfz7_4 := blk_frozen BK127.out 4; have hfz7_5 := blk_frozen BK127.out 5; have hfz7_6 := blk_frozen BK127.out 6))
  refine bodyPost_ret (results_cell_row rfl _ _ gb127 23 #[.int .i64 a0, .bool a1_1, .bool a1_2, .bool a1_3, .int .i32 a1_4, .int .i32 a1_5, .int .i32 a1_6] (0, 0) _ rfl (by (with_reducible repeat (first | refine blk_drewN ?_ _ | refine blk_drew ?_ | refine blk_alloc ?_ _)); refine blk_put (cs := #[.int .i64 a0, .bool a1_1, .bool a1_2, .bool a1_3, .int .i32 a1_4, .int .i32 a1_5, .int .i32 0]) ?_ 6 _ rfl; (with_reducible repeat (first | refine blk_drewN ?_ _ | refine blk_drew ?_ | refine blk_alloc ?_ _)); refine blk_put (cs := #[.int .i64 a0, .bool a1_1, .bool a1_2, .bool a1_3, .int .i32 a1_4, .int .i32 0, .int .i32 0]) ?_ 5 _ rfl; (with_reducible repeat (first | refine blk_drewN ?_ _ | refine blk_drew ?_ | refine blk_alloc ?_ _)); refine blk_put (cs := #[.int .i64 a0, .bool a1_1, .bool a1_2, .bool a1_3, .int .i32 0, .int .i32 0, .int .i32 0]) ?_ 4 _ rfl; (with_reducible repeat (first | refine blk_drewN ?_ _ | refine blk_drew ?_ | refine blk_alloc ?_ _)); refine blk_put (cs := #[.int .i64 a0, .bool a1_1, .bool a1_2, .bool false, .int .i32 0, .int .i32 0, .int .i32 0]) ?_ 3 _ rfl; (with_reducible repeat (first | refine blk_drewN ?_ _ | refine blk_drew ?_ | refine blk_alloc ?_ _)); refine blk_put (cs := #[.int .i64 a0, .bool a1_1, .bool false, .bool false, .int .i32 0, .int .i32 0, .int .i32 0]) ?_ 2 _ rfl; (with_reducible repeat (first | refine blk_drewN ?_ _ | refine blk_drew ?_ | refine blk_alloc ?_ _)); refine blk_put (cs := #[.int .i64 a0, .bool false, .bool false, .bool false, .int .i32 0, .int .i32 0, .int .i32 0]) ?_ 1 _ rfl; (with_reducible repeat (first | refine blk_drewN ?_ _ | refine blk_drew ?_ | refine blk_alloc ?_ _)); refine blk_put (cs := #[.int .i64 0, .bool false, .bool false, .bool false, .int .i32 0, .int .i32 0, .int .i32 0]) ?_ 0 _ rfl; (with_reducible repeat (first | refine blk_drewN ?_ _ | refine blk_drew ?_ | refine blk_alloc ?_ _)); refine blk_far ?_ NB127_126.out _; (with_reducible repeat (first | refine blk_drewN ?_ _ | refine blk_drew ?_ | refine blk_alloc ?_ _)); exact BK127.out) Tryz.underlying23 rfl (by kernel_rfl)) rfl ?_
  exact ⟨by first | rfl | (simp [Nat.add_zero] <;> rfl) | (simp [*, Nat.add_zero] <;> rfl), by repeat (first | (with_reducible first | exact HB.out | apply below_alloc | apply pw_below_drewN | apply below_drew1 | refine below_set ?_ GE126.out | refine below_set ?_ GE127.out) | exact HB.out)⟩

end Go.Proofs.YtelocgemofghaaaGreatDoor

/-! Numbers of seven bits a byte. Turned by a program (wip/tools/own3.py) from what the kit's print says of these functions. -/
namespace Go.Proofs.YtelocgemofghaaaGreatDoor

open Go.RowKit Go.Proofs.YtelocgemofghaaaGreatDoorW.PrintWords Go.Proofs.YtelocgemofghaaaGreatDoorW.PrintLast Go.Proofs.YtelocgemofghaaaGreatDoorW.PrintMore

attribute [local go_sem] max2_int min2_int max_two min_two max_three min_three max_four min_four

set_option linter.unusedVariables false

set_option linter.unusedSimpArgs false

/-! ### laws_seven -/

def laws_seven.l0 : Nat → Int → List Int → Option (List Int)
  | 0, _, _ => none
  | k + 1, x0, x3 => if x0 ≥ 128 then (if x3.length < 140737488355328 then (laws_seven.l0 k (x0 / 128) (x3 ++ [Go.bits .or .u8 ((x0) % 256) 128])) else (none)) else (if x3.length < 140737488355328 then (some (x3 ++ [(x0) % 256])) else (none))

def laws_seven.f (k : Nat) (a0 : Int) : Option (List Int) := laws_seven.l0 k a0 ([] : List Int)

theorem laws_seven.mono_l : ∀ k, (∀ y0 y1, LeO (laws_seven.l0 k y0 y1) (laws_seven.l0 (k + 1) y0 y1))
  | 0 => fun _ _ r h => by simp [laws_seven.l0] at h
  | k + 1 => by
    have ih0 := laws_seven.mono_l k
    · intro y0 y1
      unfold laws_seven.l0
      repeat' first
      | (with_reducible exact ih0 _ _)
      | (with_reducible exact LeO.refl _)
      | (with_reducible exact LeO.none _)
      | (with_reducible refine LeO.ite ?_ ?_)
      | (with_reducible refine LeO.bind ?_ (fun _ => ?_))
      | exact ih0 _ _
      | exact LeO.none _
      | refine LeO.ite ?_ ?_
      | refine LeO.bind ?_ (fun _ => ?_)

theorem laws_seven.mono : ∀ a0 k, LeO (laws_seven.f k a0) (laws_seven.f (k + 1) a0) := by
  intro a0 k
  have ih0 := laws_seven.mono_l k
  unfold laws_seven.f
  repeat' first
      | (with_reducible exact ih0 _ _)
      | (with_reducible exact LeO.refl _)
      | (with_reducible exact LeO.none _)
      | (with_reducible refine LeO.ite ?_ ?_)
      | (with_reducible refine LeO.bind ?_ (fun _ => ?_))
      | exact ih0 _ _
      | exact LeO.none _
      | refine LeO.ite ?_ ?_
      | refine LeO.bind ?_ (fun _ => ?_)

set_option maxHeartbeats 8000000 in
set_option maxRecDepth 100000 in
theorem laws_seven.calls (k : Nat) (a0 : Int) (r : List Int) (w : World) (h : laws_seven.f k a0 = some r) :
    Calls Tryz.prog 14 #[.int .u64 a0] w fun e w' => ∃ v0_ : Value, e = .returned (v0_) ∧ Kd.R (Kd.int .u8) 5 w' w.heap.size (fun _ => True) v0_ r ∧ Below w.heap.size w w' := by
  have HB := Aside0.mk (Below.refl w.heap.size w)
  have H : (laws_seven.l0 k a0 ([] : List Int)) = some r := h
  clear h
  have H' := Aside0.mk H
  clear H
  go_enter Tryz.func14, Tryz.ntmps14
  go_wp2
  go_loopg [0, 3] k (fun kq v0 v3 w' => ∃ (x0_1 : Int) (x3_1 : List Int), v0 = .int .u64 x0_1 ∧ Aside0 (laws_seven.l0 kq x0_1 x3_1 = some r) ∧ Aside0 (kq ≤ k) ∧ Aside0 (Kd.R (Kd.int .u8) 5 w' w.heap.size (fun _ => True) v3 x3_1) ∧ Aside0 (Below w.heap.size w w'))
  case atStart => exact ⟨(a0), (([] : List Int)), (by first | rfl | (simp; done) | (simp [*]; done)), H', ⟨Nat.le_refl _⟩, ⟨by first | exact Kd.R_nil _ _ _ _ _ | exact Kd.N_nil _ _ _ _ _ | exact Kd.V_nil _ _ _ _ _ | exact Kd.Q_nil _ _ _ _ _ | exact Kd.S_nil _ _ _ _ _⟩, ⟨by repeat (first | (with_reducible first | exact HB.out | apply below_alloc | apply pw_below_drewN | apply below_drew1) | exact HB.out)⟩⟩
  case round =>
    clear H'
    try clear c1
    obtain ⟨x0_1, x3_1, rfl, HA, HK1, HO_3, HB⟩ := hrel
    cases gk with
    | zero => exact absurd HA.out (by simp [laws_seven.l0])
    | succ k1 =>
      have H := HA.out
      clear HA
      simp only [laws_seven.l0] at H
      by_cases c2 : x0_1 ≥ 128
      · rw [if_pos c2] at H
        have c2b0 : decide (128 ≤ x0_1) = true := decide_eq_true c2
        clear c2
        by_cases c3 : x3_1.length < 140737488355328
        · rw [if_pos c3] at H
          have LMc3 := Aside0.mk c3
          clear c3
          obtain ⟨y122, hy122⟩ : ∃ y_ : List Int, y_ = (x3_1 ++ [Go.bits .or .u8 ((x0_1) % 256) 128]) := ⟨_, rfl⟩
          replace H : (laws_seven.l0 k1 (x0_1 / 128) y122) = some r := by first | (rw [hy122]; with_reducible exact H) | (have H2_ := (Option.bind_some _ _).symm.trans H; rw [hy122]; with_reducible exact H2_) | (have H2_ := (Option.bind_some _ _).symm.trans H; with_reducible exact H2_) | with_reducible exact H | (rw [hy122]; exact H) | exact H
          have Ny122 := Aside0.mk hy122
          clear hy122
          have H' := Aside0.mk H
          clear H
          go_wp2_with (first | ((with_reducible refine gate_builtin (b := .append) (xs := #[.tmp 6, .tmp 10]) rfl ?_); at_builtin; refine Kd.R_append (Kd.int .u8) (w0 := w) w.heap.size rfl (.tmp 6) (.tmp 10) 24 5 (.int .u8 0) 1 rfl Tryz.underlying24 infoU8 rfl (by decide) (by omega) u3 x3_1 (Go.bits .or .u8 ((x0_1) % 256) 128) [.int .u8 (Go.bits .or .u8 ((x0_1) % 256) 128)] (fun _ => True) (fun _ => False) rfl rfl ?aP (fun _ hk => hk.elim) ?aF ?aO ?aB ?aS ?aL ?_; (case aP => exact rfl); (case aB => exact (by repeat (first | (with_reducible first | exact HB.out | apply below_alloc | apply pw_below_drewN | apply below_drew1) | exact HB.out))); (case aF => exact (fun _ _ => trivial)); (case aO => exact (by (with_reducible repeat (first | apply Kd.R_alloc | apply Kd.R_drewN | apply Kd.R_drew)); exact HO_3.out)); (case aS => exact (below_size (by repeat (first | (with_reducible first | exact HB.out | apply below_alloc | apply pw_below_drewN | apply below_drew1) | exact HB.out)))); (case aL => have := LMc3.out; omega); intro v123 w4 ho hb hg hat; rw [← Ny122.out] at ho; have n0_ := Aside0.mk (hb); have n1_ := Aside0.mk (ho); clear HB; clear HO_3; have HB := n0_; have HO124 := n1_; clear n0_ n1_; clear ho hb hg hat))
          go_roundg k1
          case measure => have := HK1.out; omega
          case rel => exact ⟨(x0_1 / 128), (y122), (by first | rfl | (simp; done) | (simp [*]; done)), H', ⟨by have := HK1.out; omega⟩, ⟨by (with_reducible repeat (first | apply Kd.R_alloc | apply Kd.R_drewN | apply Kd.R_drew)); exact HO124.out⟩, ⟨by repeat (first | (with_reducible first | exact HB.out | apply below_alloc | apply pw_below_drewN | apply below_drew1) | exact HB.out)⟩⟩
        · rw [if_neg c3] at H
          exact absurd H (by simp)
      · rw [if_neg c2] at H
        have c2b0 : decide (128 ≤ x0_1) = false := decide_eq_false c2
        clear c2
        by_cases c5 : x3_1.length < 140737488355328
        · rw [if_pos c5] at H
          have LMc5 := Aside0.mk c5
          clear c5
          obtain ⟨y125, hy125⟩ : ∃ y_ : List Int, y_ = (x3_1 ++ [(x0_1) % 256]) := ⟨_, rfl⟩
          replace H : (some y125) = some r := by first | (rw [hy125]; with_reducible exact H) | (have H2_ := (Option.bind_some _ _).symm.trans H; rw [hy125]; with_reducible exact H2_) | (have H2_ := (Option.bind_some _ _).symm.trans H; with_reducible exact H2_) | with_reducible exact H | (rw [hy125]; exact H) | exact H
          have Ny125 := Aside0.mk hy125
          clear hy125
          obtain rfl := Option.some.inj H
          go_wp2_with (first | ((with_reducible refine gate_builtin (b := .append) (xs := #[.tmp 14, .tmp 17]) rfl ?_); at_builtin; refine Kd.R_append (Kd.int .u8) (w0 := w) w.heap.size rfl (.tmp 14) (.tmp 17) 24 5 (.int .u8 0) 1 rfl Tryz.underlying24 infoU8 rfl (by decide) (by omega) u3 x3_1 ((x0_1) % 256) [.int .u8 ((x0_1) % 256)] (fun _ => True) (fun _ => False) rfl rfl ?aP (fun _ hk => hk.elim) ?aF ?aO ?aB ?aS ?aL ?_; (case aP => exact rfl); (case aB => exact (by repeat (first | (with_reducible first | exact HB.out | apply below_alloc | apply pw_below_drewN | apply below_drew1) | exact HB.out))); (case aF => exact (fun _ _ => trivial)); (case aO => exact (by (with_reducible repeat (first | apply Kd.R_alloc | apply Kd.R_drewN | apply Kd.R_drew)); exact HO_3.out)); (case aS => exact (below_size (by repeat (first | (with_reducible first | exact HB.out | apply below_alloc | apply pw_below_drewN | apply below_drew1) | exact HB.out)))); (case aL => have := LMc5.out; omega); intro v126 w6 ho hb hg hat; rw [← Ny125.out] at ho; have n0_ := Aside0.mk (hb); have n1_ := Aside0.mk (ho); clear HB; clear HO_3; have HB := n0_; have HO127 := n1_; clear n0_ n1_; clear ho hb hg hat))
          go_ret
          exact ⟨_, by first | rfl | (simp [Nat.add_zero] <;> rfl) | (simp [*, Nat.add_zero] <;> rfl), by (with_reducible repeat (first | apply Kd.R_alloc | apply Kd.R_drewN | apply Kd.R_drew)); exact HO127.out, by repeat (first | (with_reducible first | exact HB.out | apply below_alloc | apply pw_below_drewN | apply below_drew1) | exact HB.out)⟩
        · rw [if_neg c5] at H
          exact absurd H (by simp)

/-! ### laws_folded -/

def laws_folded.f (k : Nat) (a0 : Int) : Option (List Int) := (laws_seven.f k (Go.bits .xor .u64 (IntKind.u64.wrap ((IntKind.u64.wrap (a0)) * 2)) (IntKind.u64.wrap (a0 / 9223372036854775808)))).bind fun t128 => (some t128)

theorem laws_folded.mono : ∀ a0 k, LeO (laws_folded.f k a0) (laws_folded.f (k + 1) a0) := by
  intro a0 k
  unfold laws_folded.f
  repeat' first
      | (with_reducible exact laws_seven.mono _ _)
      | (with_reducible exact LeO.refl _)
      | (with_reducible exact LeO.none _)
      | (with_reducible refine LeO.ite ?_ ?_)
      | (with_reducible refine LeO.bind ?_ (fun _ => ?_))
      | exact laws_seven.mono _ _
      | exact LeO.none _
      | refine LeO.ite ?_ ?_
      | refine LeO.bind ?_ (fun _ => ?_)

set_option maxHeartbeats 8000000 in
set_option maxRecDepth 100000 in
theorem laws_folded.calls (k : Nat) (a0 : Int) (r : List Int) (w : World) (h : laws_folded.f k a0 = some r) :
    Calls Tryz.prog 36 #[.int .i64 a0] w fun e w' => ∃ v0_ : Value, e = .returned (v0_) ∧ Kd.R (Kd.int .u8) 5 w' w.heap.size (fun _ => True) v0_ r ∧ Below w.heap.size w w' := by
  have HB := Aside0.mk (Below.refl w.heap.size w)
  have H : ((laws_seven.f k (Go.bits .xor .u64 (IntKind.u64.wrap ((IntKind.u64.wrap (a0)) * 2)) (IntKind.u64.wrap (a0 / 9223372036854775808)))).bind fun t128 => (some t128)) = some r := h
  clear h
  replace H := Option.bind_eq_some_iff.mp H
  obtain ⟨t128, A20, H⟩ := H
  replace H : (some t128) = some r := H
  have A2 := Aside0.mk A20
  clear A20
  obtain rfl := Option.some.inj H
  go_enter Tryz.func36, Tryz.ntmps36
  go_wp2_with (first | ((with_reducible refine gate_callee (f := 14) rfl ?_); refine goesL_ (some 10) rfl rfl Tryz.func14 (by kernel_rfl) rfl #[.int .u64 (Go.bits .xor .u64 (IntKind.u64.wrap ((IntKind.u64.wrap (a0)) * 2)) (IntKind.u64.wrap (a0 / 9223372036854775808)))] rfl (by (try simp only [List.map_toArray, List.map_cons, List.map_nil]); first | done | rfl | (simp only [List.length_drop, List.length_take]; rfl)) ?_; (with_reducible refine (laws_seven.calls k (Go.bits .xor .u64 (IntKind.u64.wrap ((IntKind.u64.wrap (a0)) * 2)) (IntKind.u64.wrap (a0 / 9223372036854775808))) t128 _ A2.out).mono ?_); rintro e w3 ⟨v129, rfl, ho0, hb⟩; refine ⟨_, rfl, ?_⟩; have n0_ := Aside0.mk (Kd.R_lower ho0 (below_size (by repeat (first | (with_reducible first | exact HB.out | apply below_alloc | apply pw_below_drewN | apply below_drew1) | exact HB.out)))); have n1_ := Aside0.mk (below_step (by repeat (first | (with_reducible first | exact HB.out | apply below_alloc | apply pw_below_drewN | apply below_drew1) | exact HB.out)) hb); clear HB; have HO130 := n0_; have HB := n1_; clear n0_ n1_; (try clear hb); (try clear hb2); (try clear hk); (try clear hi); (try clear ho0)))
  go_ret
  exact ⟨_, by first | rfl | (simp [Nat.add_zero] <;> rfl) | (simp [*, Nat.add_zero] <;> rfl), by (with_reducible repeat (first | apply Kd.R_alloc | apply Kd.R_drewN | apply Kd.R_drew)); exact HO130.out, by repeat (first | (with_reducible first | exact HB.out | apply below_alloc | apply pw_below_drewN | apply below_drew1) | exact HB.out)⟩

end Go.Proofs.YtelocgemofghaaaGreatDoor

/-! Numbers, the highest byte first. Turned by a program (wip/tools/own3.py) from what the kit's print says of these functions. -/
namespace Go.Proofs.YtelocgemofghaaaGreatDoor

open Go.RowKit Go.Proofs.YtelocgemofghaaaGreatDoorW.PrintWords Go.Proofs.YtelocgemofghaaaGreatDoorW.PrintLast Go.Proofs.YtelocgemofghaaaGreatDoorW.PrintMore

attribute [local go_sem] max2_int min2_int max_two min_two max_three min_three max_four min_four

set_option linter.unusedVariables false

set_option linter.unusedSimpArgs false

/-! ### laws_big -/

def laws_big.l0 : Nat → Int → List Int → Int → Option (List Int)
  | 0, _, _, _ => none
  | k + 1, x0, x5, x6 => if x6 ≥ 0 then (if 0 ≤ (wrap64 (8 * x6)) then (if x5.length < 140737488355328 then (laws_big.l0 k x0 (x5 ++ [(shr .u64 (IntKind.u64.wrap (x0)) (wrap64 (8 * x6))) % 256]) (wrap64 (x6 - 1))) else (none)) else (none)) else (some x5)

def laws_big.f (k : Nat) (a0 : Int) (a1 : Int) : Option (List Int) := laws_big.l0 k a0 ([] : List Int) (wrap64 (a1 - 1))

theorem laws_big.mono_l : ∀ k, (∀ y0 y1 y2, LeO (laws_big.l0 k y0 y1 y2) (laws_big.l0 (k + 1) y0 y1 y2))
  | 0 => fun _ _ _ r h => by simp [laws_big.l0] at h
  | k + 1 => by
    have ih0 := laws_big.mono_l k
    · intro y0 y1 y2
      unfold laws_big.l0
      repeat' first
      | (with_reducible exact ih0 _ _ _)
      | (with_reducible exact LeO.refl _)
      | (with_reducible exact LeO.none _)
      | (with_reducible refine LeO.ite ?_ ?_)
      | (with_reducible refine LeO.bind ?_ (fun _ => ?_))
      | exact ih0 _ _ _
      | exact LeO.none _
      | refine LeO.ite ?_ ?_
      | refine LeO.bind ?_ (fun _ => ?_)

theorem laws_big.mono : ∀ a0 a1 k, LeO (laws_big.f k a0 a1) (laws_big.f (k + 1) a0 a1) := by
  intro a0 a1 k
  have ih0 := laws_big.mono_l k
  unfold laws_big.f
  repeat' first
      | (with_reducible exact ih0 _ _ _)
      | (with_reducible exact LeO.refl _)
      | (with_reducible exact LeO.none _)
      | (with_reducible refine LeO.ite ?_ ?_)
      | (with_reducible refine LeO.bind ?_ (fun _ => ?_))
      | exact ih0 _ _ _
      | exact LeO.none _
      | refine LeO.ite ?_ ?_
      | refine LeO.bind ?_ (fun _ => ?_)

set_option maxHeartbeats 8000000 in
set_option maxRecDepth 100000 in
theorem laws_big.calls (k : Nat) (a0 : Int) (a1 : Int) (r : List Int) (w : World) (h : laws_big.f k a0 a1 = some r) :
    Calls Tryz.prog 13 #[.int .i64 a0, .int .i64 a1] w fun e w' => ∃ v0_ : Value, e = .returned (v0_) ∧ Kd.R (Kd.int .u8) 5 w' w.heap.size (fun _ => True) v0_ r ∧ Below w.heap.size w w' := by
  have HB := Aside0.mk (Below.refl w.heap.size w)
  have H : (laws_big.l0 k a0 ([] : List Int) (wrap64 (a1 - 1))) = some r := h
  clear h
  have H' := Aside0.mk H
  clear H
  go_enter Tryz.func13, Tryz.ntmps13
  go_wp2
  go_loopg [5, 6] k (fun kq v5 v6 w' => ∃ (x5_1 : List Int) (x6_1 : Int), v6 = .int .i64 x6_1 ∧ Aside0 (laws_big.l0 kq a0 x5_1 x6_1 = some r) ∧ Aside0 (kq ≤ k) ∧ Aside0 (Kd.R (Kd.int .u8) 5 w' w.heap.size (fun _ => True) v5 x5_1) ∧ Aside0 (Below w.heap.size w w'))
  case atStart => exact ⟨(([] : List Int)), (wrap64 (a1 - 1)), (by first | rfl | (simp; done) | (simp [*]; done)), H', ⟨Nat.le_refl _⟩, ⟨by first | exact Kd.R_nil _ _ _ _ _ | exact Kd.N_nil _ _ _ _ _ | exact Kd.V_nil _ _ _ _ _ | exact Kd.Q_nil _ _ _ _ _ | exact Kd.S_nil _ _ _ _ _⟩, ⟨by repeat (first | (with_reducible first | exact HB.out | apply below_alloc | apply pw_below_drewN | apply below_drew1) | exact HB.out)⟩⟩
  case round =>
    clear H'
    try clear c1
    try clear p2
    obtain ⟨x5_1, x6_1, rfl, HA, HK1, HO_5, HB⟩ := hrel
    cases gk with
    | zero => exact absurd HA.out (by simp [laws_big.l0])
    | succ k1 =>
      have H := HA.out
      clear HA
      simp only [laws_big.l0] at H
      by_cases c3 : x6_1 ≥ 0
      · rw [if_pos c3] at H
        have c3b0 : decide (0 ≤ x6_1) = true := decide_eq_true c3
        clear c3
        obtain ⟨ji4, hji4⟩ : ∃ j_ : Int, (wrap64 (8 * x6_1)) = j_ := ⟨_, rfl⟩
        replace H : (if 0 ≤ (ji4) then (if x5_1.length < 140737488355328 then (laws_big.l0 k1 a0 (x5_1 ++ [(shr .u64 (IntKind.u64.wrap (a0)) (ji4)) % 256]) (wrap64 (x6_1 - 1))) else (none)) else (none)) = some r := by first | (rw [hji4] at H; exact H) | (simp only [hji4] at H ⊢; exact H)
        have hji4w : (IntKind.i64.wrap (8 * x6_1)) = ji4 := (i64_w _).trans hji4
        by_cases c5 : 0 ≤ (ji4)
        · rw [if_pos c5] at H
          have c5b0 := eq_true c5
          have c5b1 : decide (0 ≤ (ji4)) = true := decide_eq_true c5
          clear c5
          obtain ⟨ji6, hji6⟩ : ∃ j_ : Int, (shr .u64 (IntKind.u64.wrap (a0)) (ji4)) = j_ := ⟨_, rfl⟩
          replace H : (if x5_1.length < 140737488355328 then (laws_big.l0 k1 a0 (x5_1 ++ [(ji6) % 256]) (wrap64 (x6_1 - 1))) else (none)) = some r := by first | (rw [hji6] at H; exact H) | (simp only [hji6] at H ⊢; exact H)
          have hji6_ : ((IntKind.u64.wrap (a0)) / 2 ^ min (ji4).toNat 64) = ji6 := hji6
          have hji6z : (ji4) ≤ 64 → ((IntKind.u64.wrap (a0)) / 2 ^ (ji4).toNat) = ji6 := shr_small hji6
          by_cases c7 : x5_1.length < 140737488355328
          · rw [if_pos c7] at H
            have LMc7 := Aside0.mk c7
            clear c7
            obtain ⟨y108, hy108⟩ : ∃ y_ : List Int, y_ = (x5_1 ++ [(ji6) % 256]) := ⟨_, rfl⟩
            replace H : (laws_big.l0 k1 a0 y108 (wrap64 (x6_1 - 1))) = some r := by first | (rw [hy108]; with_reducible exact H) | (have H2_ := (Option.bind_some _ _).symm.trans H; rw [hy108]; with_reducible exact H2_) | (have H2_ := (Option.bind_some _ _).symm.trans H; with_reducible exact H2_) | with_reducible exact H | (rw [hy108]; exact H) | exact H
            have Ny108 := Aside0.mk hy108
            clear hy108
            have H' := Aside0.mk H
            clear H
            go_wp2_with (first | ((with_reducible refine gate_builtin (b := .append) (xs := #[.tmp 13, .tmp 20]) rfl ?_); at_builtin; refine Kd.R_append (Kd.int .u8) (w0 := w) w.heap.size rfl (.tmp 13) (.tmp 20) 24 5 (.int .u8 0) 1 rfl Tryz.underlying24 infoU8 rfl (by decide) (by omega) u5 x5_1 ((ji6) % 256) [.int .u8 ((ji6) % 256)] (fun _ => True) (fun _ => False) rfl rfl ?aP (fun _ hk => hk.elim) ?aF ?aO ?aB ?aS ?aL ?_; (case aP => exact rfl); (case aB => exact (by repeat (first | (with_reducible first | exact HB.out | apply below_alloc | apply pw_below_drewN | apply below_drew1) | exact HB.out))); (case aF => exact (fun _ _ => trivial)); (case aO => exact (by (with_reducible repeat (first | apply Kd.R_alloc | apply Kd.R_drewN | apply Kd.R_drew)); exact HO_5.out)); (case aS => exact (below_size (by repeat (first | (with_reducible first | exact HB.out | apply below_alloc | apply pw_below_drewN | apply below_drew1) | exact HB.out)))); (case aL => have := LMc7.out; omega); intro v109 w8 ho hb hg hat; rw [← Ny108.out] at ho; have n0_ := Aside0.mk (hb); have n1_ := Aside0.mk (ho); clear HB; clear HO_5; have HB := n0_; have HO110 := n1_; clear n0_ n1_; clear ho hb hg hat))
            go_roundg k1
            case measure => have := HK1.out; omega
            case rel => exact ⟨(y108), (wrap64 (x6_1 - 1)), (by first | rfl | (simp; done) | (simp [*]; done)), H', ⟨by have := HK1.out; omega⟩, ⟨by (with_reducible repeat (first | apply Kd.R_alloc | apply Kd.R_drewN | apply Kd.R_drew)); exact HO110.out⟩, ⟨by repeat (first | (with_reducible first | exact HB.out | apply below_alloc | apply pw_below_drewN | apply below_drew1) | exact HB.out)⟩⟩
          · rw [if_neg c7] at H
            exact absurd H (by simp)
        · rw [if_neg c5] at H
          exact absurd H (by simp)
      · rw [if_neg c3] at H
        have c3b0 : decide (0 ≤ x6_1) = false := decide_eq_false c3
        clear c3
        obtain rfl := Option.some.inj H
        go_wp2
        go_ret
        exact ⟨_, by first | rfl | (simp [Nat.add_zero] <;> rfl) | (simp [*, Nat.add_zero] <;> rfl), by (with_reducible repeat (first | apply Kd.R_alloc | apply Kd.R_drewN | apply Kd.R_drew)); exact HO_5.out, by repeat (first | (with_reducible first | exact HB.out | apply below_alloc | apply pw_below_drewN | apply below_drew1) | exact HB.out)⟩

end Go.Proofs.YtelocgemofghaaaGreatDoor

/-! Types of values. Turned by a program (wip/tools/own.py) from what the kit's print says of these functions. -/
namespace Go.Proofs.YtelocgemofghaaaGreatDoor

open Go.RowKit Go.Proofs.YtelocgemofghaaaGreatDoorW.PrintWords Go.Proofs.YtelocgemofghaaaGreatDoorW.PrintLast Go.Proofs.YtelocgemofghaaaGreatDoorW.PrintMore

attribute [local go_sem] max2_int min2_int max_two min_two max_three min_three max_four min_four

set_option linter.unusedVariables false

set_option linter.unusedSimpArgs false

/-! ### laws_isType -/

def laws_isType.f (a0 : Int) : Option (Bool) := if a0 = 2 then (some true) else (if a0 = 3 then (some true) else (if a0 = 4 then (some true) else (if a0 = 6 then (some true) else (if a0 = 8 then (some true) else (if a0 = 10 then (some true) else (if a0 ≥ 11 then (some (decide (a0 ≤ 16))) else (some false)))))))

set_option maxHeartbeats 8000000 in
set_option maxRecDepth 100000 in
theorem laws_isType.calls (a0 : Int) (r : Bool) (w : World) (h : laws_isType.f a0 = some r) :
    Calls Tryz.prog 34 #[.int .i64 a0] w fun e w' => e = .returned (.bool r) ∧ Drawn0 w w' := by
  have H : (if a0 = 2 then (some true) else (if a0 = 3 then (some true) else (if a0 = 4 then (some true) else (if a0 = 6 then (some true) else (if a0 = 8 then (some true) else (if a0 = 10 then (some true) else (if a0 ≥ 11 then (some (decide (a0 ≤ 16))) else (some false)))))))) = some r := h
  clear h
  by_cases c2 : a0 = 2
  · rw [if_pos c2] at H
    have c2b0 : (a0 == 2) = true := beq_iff_eq.mpr c2
    have c2b1 : (a0 != 2) = false := bne_eq_false_iff_eq.mpr c2
    clear c2
    obtain rfl := Option.some.inj H
    go_enter Tryz.func34, Tryz.ntmps34
    go_wp2
    go_ret
    exact ⟨by first | rfl | (simp; done) | (simp [*]; done), by repeat (first | exact Drawn0.refl _ | apply Drawn0.step)⟩
  · rw [if_neg c2] at H
    have c2b0 : (a0 == 2) = false := beq_eq_false_iff_ne.mpr c2
    have c2b1 : (a0 != 2) = true := bne_iff_ne.mpr c2
    by_cases c3 : a0 = 3
    · rw [if_pos c3] at H
      have c3b0 : (a0 == 3) = true := beq_iff_eq.mpr c3
      have c3b1 : (a0 != 3) = false := bne_eq_false_iff_eq.mpr c3
      clear c3
      obtain rfl := Option.some.inj H
      go_enter Tryz.func34, Tryz.ntmps34
      go_wp2
      go_ret
      exact ⟨by first | rfl | (simp; done) | (simp [*]; done), by repeat (first | exact Drawn0.refl _ | apply Drawn0.step)⟩
    · rw [if_neg c3] at H
      have c3b0 : (a0 == 3) = false := beq_eq_false_iff_ne.mpr c3
      have c3b1 : (a0 != 3) = true := bne_iff_ne.mpr c3
      by_cases c4 : a0 = 4
      · rw [if_pos c4] at H
        have c4b0 : (a0 == 4) = true := beq_iff_eq.mpr c4
        have c4b1 : (a0 != 4) = false := bne_eq_false_iff_eq.mpr c4
        clear c4
        obtain rfl := Option.some.inj H
        go_enter Tryz.func34, Tryz.ntmps34
        go_wp2
        go_ret
        exact ⟨by first | rfl | (simp; done) | (simp [*]; done), by repeat (first | exact Drawn0.refl _ | apply Drawn0.step)⟩
      · rw [if_neg c4] at H
        have c4b0 : (a0 == 4) = false := beq_eq_false_iff_ne.mpr c4
        have c4b1 : (a0 != 4) = true := bne_iff_ne.mpr c4
        by_cases c5 : a0 = 6
        · rw [if_pos c5] at H
          have c5b0 : (a0 == 6) = true := beq_iff_eq.mpr c5
          have c5b1 : (a0 != 6) = false := bne_eq_false_iff_eq.mpr c5
          clear c5
          obtain rfl := Option.some.inj H
          go_enter Tryz.func34, Tryz.ntmps34
          go_wp2
          go_ret
          exact ⟨by first | rfl | (simp; done) | (simp [*]; done), by repeat (first | exact Drawn0.refl _ | apply Drawn0.step)⟩
        · rw [if_neg c5] at H
          have c5b0 : (a0 == 6) = false := beq_eq_false_iff_ne.mpr c5
          have c5b1 : (a0 != 6) = true := bne_iff_ne.mpr c5
          by_cases c6 : a0 = 8
          · rw [if_pos c6] at H
            have c6b0 : (a0 == 8) = true := beq_iff_eq.mpr c6
            have c6b1 : (a0 != 8) = false := bne_eq_false_iff_eq.mpr c6
            clear c6
            obtain rfl := Option.some.inj H
            go_enter Tryz.func34, Tryz.ntmps34
            go_wp2
            go_ret
            exact ⟨by first | rfl | (simp; done) | (simp [*]; done), by repeat (first | exact Drawn0.refl _ | apply Drawn0.step)⟩
          · rw [if_neg c6] at H
            have c6b0 : (a0 == 8) = false := beq_eq_false_iff_ne.mpr c6
            have c6b1 : (a0 != 8) = true := bne_iff_ne.mpr c6
            by_cases c7 : a0 = 10
            · rw [if_pos c7] at H
              have c7b0 : (a0 == 10) = true := beq_iff_eq.mpr c7
              have c7b1 : (a0 != 10) = false := bne_eq_false_iff_eq.mpr c7
              clear c7
              obtain rfl := Option.some.inj H
              go_enter Tryz.func34, Tryz.ntmps34
              go_wp2
              go_ret
              exact ⟨by first | rfl | (simp; done) | (simp [*]; done), by repeat (first | exact Drawn0.refl _ | apply Drawn0.step)⟩
            · rw [if_neg c7] at H
              have c7b0 : (a0 == 10) = false := beq_eq_false_iff_ne.mpr c7
              have c7b1 : (a0 != 10) = true := bne_iff_ne.mpr c7
              by_cases c8 : a0 ≥ 11
              · rw [if_pos c8] at H
                have c8b0 : decide (11 ≤ a0) = true := decide_eq_true c8
                clear c8
                obtain rfl := Option.some.inj H
                go_enter Tryz.func34, Tryz.ntmps34
                go_wp2
                go_ret
                exact ⟨by first | rfl | (simp; done) | (simp [*]; done), by repeat (first | exact Drawn0.refl _ | apply Drawn0.step)⟩
              · rw [if_neg c8] at H
                have c8b0 : decide (11 ≤ a0) = false := decide_eq_false c8
                clear c8
                obtain rfl := Option.some.inj H
                go_enter Tryz.func34, Tryz.ntmps34
                go_wp2
                go_ret
                exact ⟨by first | rfl | (simp; done) | (simp [*]; done), by repeat (first | exact Drawn0.refl _ | apply Drawn0.step)⟩

end Go.Proofs.YtelocgemofghaaaGreatDoor

/-! Wide configurations. Turned by a program (wip/tools/own3.py) from what the kit's print says of these functions. -/
namespace Go.Proofs.YtelocgemofghaaaGreatDoor

open Go.RowKit Go.Proofs.YtelocgemofghaaaGreatDoorW.PrintWords Go.Proofs.YtelocgemofghaaaGreatDoorW.PrintLast Go.Proofs.YtelocgemofghaaaGreatDoorW.PrintMore

attribute [local go_sem] max2_int min2_int max_two min_two max_three min_three max_four min_four

set_option linter.unusedVariables false

set_option linter.unusedSimpArgs false

/-! ### laws_isWide -/

def laws_isWide.f (a0_0 : Int) (a0_1 : Bool) (a0_2 : Bool) (a0_3 : Bool) (a0_4 : Int) (a0_5 : Int) (a0_6 : Int) : Option (Bool) := if a0_1 = true then (some true) else (if a0_4 ≤ 0 then (if a0_5 ≤ 0 then (if a0_6 ≤ 0 then (some true) else (some (decide (a0_6 > 1048576)))) else (if a0_5 > 65536 then (if a0_6 ≤ 0 then (some true) else (some (decide (a0_6 > 1048576)))) else (some false))) else (if a0_4 > 1048576 then (if a0_5 ≤ 0 then (if a0_6 ≤ 0 then (some true) else (some (decide (a0_6 > 1048576)))) else (if a0_5 > 65536 then (if a0_6 ≤ 0 then (some true) else (some (decide (a0_6 > 1048576)))) else (some false))) else (some false)))

set_option maxHeartbeats 8000000 in
set_option maxRecDepth 100000 in
theorem laws_isWide.calls (a0_0 : Int) (a0_1 : Bool) (a0_2 : Bool) (a0_3 : Bool) (a0_4 : Int) (a0_5 : Int) (a0_6 : Int) (r : Bool) (w : World) (h : laws_isWide.f a0_0 a0_1 a0_2 a0_3 a0_4 a0_5 a0_6 = some r) :
    Calls Tryz.prog 23 #[.agg #[.int .i64 a0_0, .bool a0_1, .bool a0_2, .bool a0_3, .int .i32 a0_4, .int .i32 a0_5, .int .i32 a0_6]] w fun e w' => e = .returned (.bool r) ∧ Below w.heap.size w w' := by
  have hu23 := Tryz.underlying23
  have HB := Aside0.mk (Below.refl w.heap.size w)
  have H : (if a0_1 = true then (some true) else (if a0_4 ≤ 0 then (if a0_5 ≤ 0 then (if a0_6 ≤ 0 then (some true) else (some (decide (a0_6 > 1048576)))) else (if a0_5 > 65536 then (if a0_6 ≤ 0 then (some true) else (some (decide (a0_6 > 1048576)))) else (some false))) else (if a0_4 > 1048576 then (if a0_5 ≤ 0 then (if a0_6 ≤ 0 then (some true) else (some (decide (a0_6 > 1048576)))) else (if a0_5 > 65536 then (if a0_6 ≤ 0 then (some true) else (some (decide (a0_6 > 1048576)))) else (some false))) else (some false)))) = some r := h
  clear h
  by_cases c2 : a0_1 = true
  · subst c2
    have H1 : (some true) = some r := by rw [if_pos rfl] at H; exact H
    clear H
    have H := H1
    clear H1
    obtain rfl := Option.some.inj H
    go_enter Tryz.func23, Tryz.ntmps23
    go_wp2_with (first | ((with_reducible refine gate_dst (N := 1) rfl ?_); refine box_event ?hg (N := 1) ?hd (cs := #[.int .i64 a0_0, .bool true, .bool a0_2, .bool a0_3, .int .i32 a0_4, .int .i32 a0_5, .int .i32 a0_6]) (t := 23) ?hr ?_; (case hd => rfl); (case hg => rfl); (case hr => first | (go_simp; done) | (go_simp; rfl)); intro gb130 hg w3 hbox hb; have n0_ := Aside0.mk (below_step (by repeat (first | (with_reducible first | exact HB.out | apply below_alloc | apply pw_below_drewN | apply below_drew1) | exact HB.out)) hb); have n1_ := Aside0.mk (hbox); have n2_ := Aside0.mk ((by rw [hg]; exact (below_size (by repeat (first | (with_reducible first | exact HB.out | apply below_alloc | apply pw_below_drewN | apply below_drew1) | exact HB.out))) : w.heap.size ≤ gb130)); have n3_ := Aside0.mk ((by rw [hg]; exact (below_size (by repeat (first | (with_reducible first | exact HB.out | apply below_alloc | apply pw_below_drewN | apply below_drew1) | exact HB.out))) : w.heap.size ≤ gb130)); clear HB; have HB := n0_; have BK130 := n1_; have GW130 := n2_; have GE130 := n3_; clear n0_ n1_ n2_ n3_; clear hb hbox hg; have hcz4_0 : w3.cell? ⟨gb130, 0, none⟩ = some (.int .i64 a0_0) := (blk_cell BK130.out 0).trans rfl; have hcz4_1 : w3.cell? ⟨gb130, 1, none⟩ = some (.bool true) := (blk_cell BK130.out 1).trans rfl; have hcz4_2 : w3.cell? ⟨gb130, 2, none⟩ = some (.bool a0_2) := (blk_cell BK130.out 2).trans rfl; have hcz4_3 : w3.cell? ⟨gb130, 3, none⟩ = some (.bool a0_3) := (blk_cell BK130.out 3).trans rfl; have hcz4_4 : w3.cell? ⟨gb130, 4, none⟩ = some (.int .i32 a0_4) := (blk_cell BK130.out 4).trans rfl; have hcz4_5 : w3.cell? ⟨gb130, 5, none⟩ = some (.int .i32 a0_5) := (blk_cell BK130.out 5).trans rfl; have hcz4_6 : w3.cell? ⟨gb130, 6, none⟩ = some (.int .i32 a0_6) := (blk_cell BK130.out 6).trans rfl; have hfz4_0 := blk_frozen BK130.out 0; have hfz4_1 := blk_frozen BK130.out 1; have hfz4_2 := blk_frozen BK130.out 2; have hfz4_3 := blk_frozen BK130.out 3; have hfz4_4 := blk_frozen BK130.out 4; have hfz4_5 := blk_frozen BK130.out 5; have hfz4_6 := blk_frozen BK130.out 6))
    go_ret
    exact ⟨by first | rfl | (simp [Nat.add_zero] <;> rfl) | (simp [*, Nat.add_zero] <;> rfl), by repeat (first | (with_reducible first | exact HB.out | apply below_alloc | apply pw_below_drewN | apply below_drew1 | refine below_set ?_ GE130.out) | exact HB.out)⟩
  · replace c2 := Bool.eq_false_iff.mpr c2
    subst c2
    have H1 : (if a0_4 ≤ 0 then (if a0_5 ≤ 0 then (if a0_6 ≤ 0 then (some true) else (some (decide (a0_6 > 1048576)))) else (if a0_5 > 65536 then (if a0_6 ≤ 0 then (some true) else (some (decide (a0_6 > 1048576)))) else (some false))) else (if a0_4 > 1048576 then (if a0_5 ≤ 0 then (if a0_6 ≤ 0 then (some true) else (some (decide (a0_6 > 1048576)))) else (if a0_5 > 65536 then (if a0_6 ≤ 0 then (some true) else (some (decide (a0_6 > 1048576)))) else (some false))) else (some false))) = some r := by rw [if_neg (show ¬ (false = true) by decide)] at H; exact H
    clear H
    have H := H1
    clear H1
    by_cases c5 : a0_4 ≤ 0
    · rw [if_pos c5] at H
      have c5b0 : decide (a0_4 ≤ 0) = true := decide_eq_true c5
      clear c5
      by_cases c6 : a0_5 ≤ 0
      · rw [if_pos c6] at H
        have c6b0 : decide (a0_5 ≤ 0) = true := decide_eq_true c6
        clear c6
        by_cases c7 : a0_6 ≤ 0
        · rw [if_pos c7] at H
          have c7b0 : decide (a0_6 ≤ 0) = true := decide_eq_true c7
          clear c7
          obtain rfl := Option.some.inj H
          go_enter Tryz.func23, Tryz.ntmps23
          go_wp2_with (first | ((with_reducible refine gate_dst (N := 1) rfl ?_); refine box_event ?hg (N := 1) ?hd (cs := #[.int .i64 a0_0, .bool false, .bool a0_2, .bool a0_3, .int .i32 a0_4, .int .i32 a0_5, .int .i32 a0_6]) (t := 23) ?hr ?_; (case hd => rfl); (case hg => rfl); (case hr => first | (go_simp; done) | (go_simp; rfl)); intro gb130 hg w8 hbox hb; have n0_ := Aside0.mk (below_step (by repeat (first | (with_reducible first | exact HB.out | apply below_alloc | apply pw_below_drewN | apply below_drew1) | exact HB.out)) hb); have n1_ := Aside0.mk (hbox); have n2_ := Aside0.mk ((by rw [hg]; exact (below_size (by repeat (first | (with_reducible first | exact HB.out | apply below_alloc | apply pw_below_drewN | apply below_drew1) | exact HB.out))) : w.heap.size ≤ gb130)); have n3_ := Aside0.mk ((by rw [hg]; exact (below_size (by repeat (first | (with_reducible first | exact HB.out | apply below_alloc | apply pw_below_drewN | apply below_drew1) | exact HB.out))) : w.heap.size ≤ gb130)); clear HB; have HB := n0_; have BK130 := n1_; have GW130 := n2_; have GE130 := n3_; clear n0_ n1_ n2_ n3_; clear hb hbox hg; have hcz9_0 : w8.cell? ⟨gb130, 0, none⟩ = some (.int .i64 a0_0) := (blk_cell BK130.out 0).trans rfl; have hcz9_1 : w8.cell? ⟨gb130, 1, none⟩ = some (.bool false) := (blk_cell BK130.out 1).trans rfl; have hcz9_2 : w8.cell? ⟨gb130, 2, none⟩ = some (.bool a0_2) := (blk_cell BK130.out 2).trans rfl; have hcz9_3 : w8.cell? ⟨gb130, 3, none⟩ = some (.bool a0_3) := (blk_cell BK130.out 3).trans rfl; have hcz9_4 : w8.cell? ⟨gb130, 4, none⟩ = some (.int .i32 a0_4) := (blk_cell BK130.out 4).trans rfl; have hcz9_5 : w8.cell? ⟨gb130, 5, none⟩ = some (.int .i32 a0_5) := (blk_cell BK130.out 5).trans rfl; have hcz9_6 : w8.cell? ⟨gb130, 6, none⟩ = some (.int .i32 a0_6) := (blk_cell BK130.out 6).trans rfl; have hfz9_0 := blk_frozen BK130.out 0; have hfz9_1 := blk_frozen BK130.out 1; have hfz9_2 := blk_frozen BK130.out 2; have hfz9_3 := blk_frozen BK130.out 3; have hfz9_4 := blk_frozen BK130.out 4; have hfz9_5 := blk_frozen BK130.out 5; have hfz9_6 := blk_frozen BK130.out 6))
          go_ret
          exact ⟨by first | rfl | (simp [Nat.add_zero] <;> rfl) | (simp [*, Nat.add_zero] <;> rfl), by repeat (first | (with_reducible first | exact HB.out | apply below_alloc | apply pw_below_drewN | apply below_drew1 | refine below_set ?_ GE130.out) | exact HB.out)⟩
        · rw [if_neg c7] at H
          have c7b0 : decide (a0_6 ≤ 0) = false := decide_eq_false c7
          clear c7
          obtain rfl := Option.some.inj H
          go_enter Tryz.func23, Tryz.ntmps23
          go_wp2_with (first | ((with_reducible refine gate_dst (N := 1) rfl ?_); refine box_event ?hg (N := 1) ?hd (cs := #[.int .i64 a0_0, .bool false, .bool a0_2, .bool a0_3, .int .i32 a0_4, .int .i32 a0_5, .int .i32 a0_6]) (t := 23) ?hr ?_; (case hd => rfl); (case hg => rfl); (case hr => first | (go_simp; done) | (go_simp; rfl)); intro gb130 hg w10 hbox hb; have n0_ := Aside0.mk (below_step (by repeat (first | (with_reducible first | exact HB.out | apply below_alloc | apply pw_below_drewN | apply below_drew1) | exact HB.out)) hb); have n1_ := Aside0.mk (hbox); have n2_ := Aside0.mk ((by rw [hg]; exact (below_size (by repeat (first | (with_reducible first | exact HB.out | apply below_alloc | apply pw_below_drewN | apply below_drew1) | exact HB.out))) : w.heap.size ≤ gb130)); have n3_ := Aside0.mk ((by rw [hg]; exact (below_size (by repeat (first | (with_reducible first | exact HB.out | apply below_alloc | apply pw_below_drewN | apply below_drew1) | exact HB.out))) : w.heap.size ≤ gb130)); clear HB; have HB := n0_; have BK130 := n1_; have GW130 := n2_; have GE130 := n3_; clear n0_ n1_ n2_ n3_; clear hb hbox hg; have hcz11_0 : w10.cell? ⟨gb130, 0, none⟩ = some (.int .i64 a0_0) := (blk_cell BK130.out 0).trans rfl; have hcz11_1 : w10.cell? ⟨gb130, 1, none⟩ = some (.bool false) := (blk_cell BK130.out 1).trans rfl; have hcz11_2 : w10.cell? ⟨gb130, 2, none⟩ = some (.bool a0_2) := (blk_cell BK130.out 2).trans rfl; have hcz11_3 : w10.cell? ⟨gb130, 3, none⟩ = some (.bool a0_3) := (blk_cell BK130.out 3).trans rfl; have hcz11_4 : w10.cell? ⟨gb130, 4, none⟩ = some (.int .i32 a0_4) := (blk_cell BK130.out 4).trans rfl; have hcz11_5 : w10.cell? ⟨gb130, 5, none⟩ = some (.int .i32 a0_5) := (blk_cell BK130.out 5).trans rfl; have hcz11_6 : w10.cell? ⟨gb130, 6, none⟩ = some (.int .i32 a0_6) := (blk_cell BK130.out 6).trans rfl; have hfz11_0 := blk_frozen BK130.out 0; have hfz11_1 := blk_frozen BK130.out 1; have hfz11_2 := blk_frozen BK130.out 2; have hfz11_3 := blk_frozen BK130.out 3; have hfz11_4 := blk_frozen BK130.out 4; have hfz11_5 := blk_frozen BK130.out 5; have hfz11_6 := blk_frozen BK130.out 6))
          go_ret
          exact ⟨by first | rfl | (simp [Nat.add_zero] <;> rfl) | (simp [*, Nat.add_zero] <;> rfl), by repeat (first | (with_reducible first | exact HB.out | apply below_alloc | apply pw_below_drewN | apply below_drew1 | refine below_set ?_ GE130.out) | exact HB.out)⟩
      · rw [if_neg c6] at H
        have c6b0 : decide (a0_5 ≤ 0) = false := decide_eq_false c6
        clear c6
        by_cases c12 : a0_5 > 65536
        · rw [if_pos c12] at H
          have c12b0 : decide (65536 < a0_5) = true := decide_eq_true c12
          clear c12
          by_cases c13 : a0_6 ≤ 0
          · rw [if_pos c13] at H
            have c13b0 : decide (a0_6 ≤ 0) = true := decide_eq_true c13
            clear c13
            obtain rfl := Option.some.inj H
            go_enter Tryz.func23, Tryz.ntmps23
            go_wp2_with (first | ((with_reducible refine gate_dst (N := 1) rfl ?_); refine box_event ?hg (N := 1) ?hd (cs := #[.int .i64 a0_0, .bool false, .bool a0_2, .bool a0_3, .int .i32 a0_4, .int .i32 a0_5, .int .i32 a0_6]) (t := 23) ?hr ?_; (case hd => rfl); (case hg => rfl); (case hr => first | (go_simp; done) | (go_simp; rfl)); intro gb130 hg w14 hbox hb; have n0_ := Aside0.mk (below_step (by repeat (first | (with_reducible first | exact HB.out | apply below_alloc | apply pw_below_drewN | apply below_drew1) | exact HB.out)) hb); have n1_ := Aside0.mk (hbox); have n2_ := Aside0.mk ((by rw [hg]; exact (below_size (by repeat (first | (with_reducible first | exact HB.out | apply below_alloc | apply pw_below_drewN | apply below_drew1) | exact HB.out))) : w.heap.size ≤ gb130)); have n3_ := Aside0.mk ((by rw [hg]; exact (below_size (by repeat (first | (with_reducible first | exact HB.out | apply below_alloc | apply pw_below_drewN | apply below_drew1) | exact HB.out))) : w.heap.size ≤ gb130)); clear HB; have HB := n0_; have BK130 := n1_; have GW130 := n2_; have GE130 := n3_; clear n0_ n1_ n2_ n3_; clear hb hbox hg; have hcz15_0 : w14.cell? ⟨gb130, 0, none⟩ = some (.int .i64 a0_0) := (blk_cell BK130.out 0).trans rfl; have hcz15_1 : w14.cell? ⟨gb130, 1, none⟩ = some (.bool false) := (blk_cell BK130.out 1).trans rfl; have hcz15_2 : w14.cell? ⟨gb130, 2, none⟩ = some (.bool a0_2) := (blk_cell BK130.out 2).trans rfl; have hcz15_3 : w14.cell? ⟨gb130, 3, none⟩ = some (.bool a0_3) := (blk_cell BK130.out 3).trans rfl; have hcz15_4 : w14.cell? ⟨gb130, 4, none⟩ = some (.int .i32 a0_4) := (blk_cell BK130.out 4).trans rfl; have hcz15_5 : w14.cell? ⟨gb130, 5, none⟩ = some (.int .i32 a0_5) := (blk_cell BK130.out 5).trans rfl; have hcz15_6 : w14.cell? ⟨gb130, 6, none⟩ = some (.int .i32 a0_6) := (blk_cell BK130.out 6).trans rfl; have hfz15_0 := blk_frozen BK130.out 0; have hfz15_1 := blk_frozen BK130.out 1; have hfz15_2 := blk_frozen BK130.out 2; have hfz15_3 := blk_frozen BK130.out 3; have hfz15_4 := blk_frozen BK130.out 4; have hfz15_5 := blk_frozen BK130.out 5; have hfz15_6 := blk_frozen BK130.out 6))
            go_ret
            exact ⟨by first | rfl | (simp [Nat.add_zero] <;> rfl) | (simp [*, Nat.add_zero] <;> rfl), by repeat (first | (with_reducible first | exact HB.out | apply below_alloc | apply pw_below_drewN | apply below_drew1 | refine below_set ?_ GE130.out) | exact HB.out)⟩
          · rw [if_neg c13] at H
            have c13b0 : decide (a0_6 ≤ 0) = false := decide_eq_false c13
            clear c13
            obtain rfl := Option.some.inj H
            go_enter Tryz.func23, Tryz.ntmps23
            go_wp2_with (first | ((with_reducible refine gate_dst (N := 1) rfl ?_); refine box_event ?hg (N := 1) ?hd (cs := #[.int .i64 a0_0, .bool false, .bool a0_2, .bool a0_3, .int .i32 a0_4, .int .i32 a0_5, .int .i32 a0_6]) (t := 23) ?hr ?_; (case hd => rfl); (case hg => rfl); (case hr => first | (go_simp; done) | (go_simp; rfl)); intro gb130 hg w16 hbox hb; have n0_ := Aside0.mk (below_step (by repeat (first | (with_reducible first | exact HB.out | apply below_alloc | apply pw_below_drewN | apply below_drew1) | exact HB.out)) hb); have n1_ := Aside0.mk (hbox); have n2_ := Aside0.mk ((by rw [hg]; exact (below_size (by repeat (first | (with_reducible first | exact HB.out | apply below_alloc | apply pw_below_drewN | apply below_drew1) | exact HB.out))) : w.heap.size ≤ gb130)); have n3_ := Aside0.mk ((by rw [hg]; exact (below_size (by repeat (first | (with_reducible first | exact HB.out | apply below_alloc | apply pw_below_drewN | apply below_drew1) | exact HB.out))) : w.heap.size ≤ gb130)); clear HB; have HB := n0_; have BK130 := n1_; have GW130 := n2_; have GE130 := n3_; clear n0_ n1_ n2_ n3_; clear hb hbox hg; have hcz17_0 : w16.cell? ⟨gb130, 0, none⟩ = some (.int .i64 a0_0) := (blk_cell BK130.out 0).trans rfl; have hcz17_1 : w16.cell? ⟨gb130, 1, none⟩ = some (.bool false) := (blk_cell BK130.out 1).trans rfl; have hcz17_2 : w16.cell? ⟨gb130, 2, none⟩ = some (.bool a0_2) := (blk_cell BK130.out 2).trans rfl; have hcz17_3 : w16.cell? ⟨gb130, 3, none⟩ = some (.bool a0_3) := (blk_cell BK130.out 3).trans rfl; have hcz17_4 : w16.cell? ⟨gb130, 4, none⟩ = some (.int .i32 a0_4) := (blk_cell BK130.out 4).trans rfl; have hcz17_5 : w16.cell? ⟨gb130, 5, none⟩ = some (.int .i32 a0_5) := (blk_cell BK130.out 5).trans rfl; have hcz17_6 : w16.cell? ⟨gb130, 6, none⟩ = some (.int .i32 a0_6) := (blk_cell BK130.out 6).trans rfl; have hfz17_0 := blk_frozen BK130.out 0; have hfz17_1 := blk_frozen BK130.out 1; have hfz17_2 := blk_frozen BK130.out 2; have hfz17_3 := blk_frozen BK130.out 3; have hfz17_4 := blk_frozen BK130.out 4; have hfz17_5 := blk_frozen BK130.out 5; have hfz17_6 := blk_frozen BK130.out 6))
            go_ret
            exact ⟨by first | rfl | (simp [Nat.add_zero] <;> rfl) | (simp [*, Nat.add_zero] <;> rfl), by repeat (first | (with_reducible first | exact HB.out | apply below_alloc | apply pw_below_drewN | apply below_drew1 | refine below_set ?_ GE130.out) | exact HB.out)⟩
        · rw [if_neg c12] at H
          have c12b0 : decide (65536 < a0_5) = false := decide_eq_false c12
          clear c12
          obtain rfl := Option.some.inj H
          go_enter Tryz.func23, Tryz.ntmps23
          go_wp2_with (first | ((with_reducible refine gate_dst (N := 1) rfl ?_); refine box_event ?hg (N := 1) ?hd (cs := #[.int .i64 a0_0, .bool false, .bool a0_2, .bool a0_3, .int .i32 a0_4, .int .i32 a0_5, .int .i32 a0_6]) (t := 23) ?hr ?_; (case hd => rfl); (case hg => rfl); (case hr => first | (go_simp; done) | (go_simp; rfl)); intro gb130 hg w18 hbox hb; have n0_ := Aside0.mk (below_step (by repeat (first | (with_reducible first | exact HB.out | apply below_alloc | apply pw_below_drewN | apply below_drew1) | exact HB.out)) hb); have n1_ := Aside0.mk (hbox); have n2_ := Aside0.mk ((by rw [hg]; exact (below_size (by repeat (first | (with_reducible first | exact HB.out | apply below_alloc | apply pw_below_drewN | apply below_drew1) | exact HB.out))) : w.heap.size ≤ gb130)); have n3_ := Aside0.mk ((by rw [hg]; exact (below_size (by repeat (first | (with_reducible first | exact HB.out | apply below_alloc | apply pw_below_drewN | apply below_drew1) | exact HB.out))) : w.heap.size ≤ gb130)); clear HB; have HB := n0_; have BK130 := n1_; have GW130 := n2_; have GE130 := n3_; clear n0_ n1_ n2_ n3_; clear hb hbox hg; have hcz19_0 : w18.cell? ⟨gb130, 0, none⟩ = some (.int .i64 a0_0) := (blk_cell BK130.out 0).trans rfl; have hcz19_1 : w18.cell? ⟨gb130, 1, none⟩ = some (.bool false) := (blk_cell BK130.out 1).trans rfl; have hcz19_2 : w18.cell? ⟨gb130, 2, none⟩ = some (.bool a0_2) := (blk_cell BK130.out 2).trans rfl; have hcz19_3 : w18.cell? ⟨gb130, 3, none⟩ = some (.bool a0_3) := (blk_cell BK130.out 3).trans rfl; have hcz19_4 : w18.cell? ⟨gb130, 4, none⟩ = some (.int .i32 a0_4) := (blk_cell BK130.out 4).trans rfl; have hcz19_5 : w18.cell? ⟨gb130, 5, none⟩ = some (.int .i32 a0_5) := (blk_cell BK130.out 5).trans rfl; have hcz19_6 : w18.cell? ⟨gb130, 6, none⟩ = some (.int .i32 a0_6) := (blk_cell BK130.out 6).trans rfl; have hfz19_0 := blk_frozen BK130.out 0; have hfz19_1 := blk_frozen BK130.out 1; have hfz19_2 := blk_frozen BK130.out 2; have hfz19_3 := blk_frozen BK130.out 3; have hfz19_4 := blk_frozen BK130.out 4; have hfz19_5 := blk_frozen BK130.out 5; have hfz19_6 := blk_frozen BK130.out 6))
          go_ret
          exact ⟨by first | rfl | (simp [Nat.add_zero] <;> rfl) | (simp [*, Nat.add_zero] <;> rfl), by repeat (first | (with_reducible first | exact HB.out | apply below_alloc | apply pw_below_drewN | apply below_drew1 | refine below_set ?_ GE130.out) | exact HB.out)⟩
    · rw [if_neg c5] at H
      have c5b0 : decide (a0_4 ≤ 0) = false := decide_eq_false c5
      clear c5
      by_cases c20 : a0_4 > 1048576
      · rw [if_pos c20] at H
        have c20b0 : decide (1048576 < a0_4) = true := decide_eq_true c20
        clear c20
        by_cases c21 : a0_5 ≤ 0
        · rw [if_pos c21] at H
          have c21b0 : decide (a0_5 ≤ 0) = true := decide_eq_true c21
          clear c21
          by_cases c22 : a0_6 ≤ 0
          · rw [if_pos c22] at H
            have c22b0 : decide (a0_6 ≤ 0) = true := decide_eq_true c22
            clear c22
            obtain rfl := Option.some.inj H
            go_enter Tryz.func23, Tryz.ntmps23
            go_wp2_with (first | ((with_reducible refine gate_dst (N := 1) rfl ?_); refine box_event ?hg (N := 1) ?hd (cs := #[.int .i64 a0_0, .bool false, .bool a0_2, .bool a0_3, .int .i32 a0_4, .int .i32 a0_5, .int .i32 a0_6]) (t := 23) ?hr ?_; (case hd => rfl); (case hg => rfl); (case hr => first | (go_simp; done) | (go_simp; rfl)); intro gb130 hg w23 hbox hb; have n0_ := Aside0.mk (below_step (by repeat (first | (with_reducible first | exact HB.out | apply below_alloc | apply pw_below_drewN | apply below_drew1) | exact HB.out)) hb); have n1_ := Aside0.mk (hbox); have n2_ := Aside0.mk ((by rw [hg]; exact (below_size (by repeat (first | (with_reducible first | exact HB.out | apply below_alloc | apply pw_below_drewN | apply below_drew1) | exact HB.out))) : w.heap.size ≤ gb130)); have n3_ := Aside0.mk ((by rw [hg]; exact (below_size (by repeat (first | (with_reducible first | exact HB.out | apply below_alloc | apply pw_below_drewN | apply below_drew1) | exact HB.out))) : w.heap.size ≤ gb130)); clear HB; have HB := n0_; have BK130 := n1_; have GW130 := n2_; have GE130 := n3_; clear n0_ n1_ n2_ n3_; clear hb hbox hg; have hcz24_0 : w23.cell? ⟨gb130, 0, none⟩ = some (.int .i64 a0_0) := (blk_cell BK130.out 0).trans rfl; have hcz24_1 : w23.cell? ⟨gb130, 1, none⟩ = some (.bool false) := (blk_cell BK130.out 1).trans rfl; have hcz24_2 : w23.cell? ⟨gb130, 2, none⟩ = some (.bool a0_2) := (blk_cell BK130.out 2).trans rfl; have hcz24_3 : w23.cell? ⟨gb130, 3, none⟩ = some (.bool a0_3) := (blk_cell BK130.out 3).trans rfl; have hcz24_4 : w23.cell? ⟨gb130, 4, none⟩ = some (.int .i32 a0_4) := (blk_cell BK130.out 4).trans rfl; have hcz24_5 : w23.cell? ⟨gb130, 5, none⟩ = some (.int .i32 a0_5) := (blk_cell BK130.out 5).trans rfl; have hcz24_6 : w23.cell? ⟨gb130, 6, none⟩ = some (.int .i32 a0_6) := (blk_cell BK130.out 6).trans rfl; have hfz24_0 := blk_frozen BK130.out 0; have hfz24_1 := blk_frozen BK130.out 1; have hfz24_2 := blk_frozen BK130.out 2; have hfz24_3 := blk_frozen BK130.out 3; have hfz24_4 := blk_frozen BK130.out 4; have hfz24_5 := blk_frozen BK130.out 5; have hfz24_6 := blk_frozen BK130.out 6))
            go_ret
            exact ⟨by first | rfl | (simp [Nat.add_zero] <;> rfl) | (simp [*, Nat.add_zero] <;> rfl), by repeat (first | (with_reducible first | exact HB.out | apply below_alloc | apply pw_below_drewN | apply below_drew1 | refine below_set ?_ GE130.out) | exact HB.out)⟩
          · rw [if_neg c22] at H
            have c22b0 : decide (a0_6 ≤ 0) = false := decide_eq_false c22
            clear c22
            obtain rfl := Option.some.inj H
            go_enter Tryz.func23, Tryz.ntmps23
            go_wp2_with (first | ((with_reducible refine gate_dst (N := 1) rfl ?_); refine box_event ?hg (N := 1) ?hd (cs := #[.int .i64 a0_0, .bool false, .bool a0_2, .bool a0_3, .int .i32 a0_4, .int .i32 a0_5, .int .i32 a0_6]) (t := 23) ?hr ?_; (case hd => rfl); (case hg => rfl); (case hr => first | (go_simp; done) | (go_simp; rfl)); intro gb130 hg w25 hbox hb; have n0_ := Aside0.mk (below_step (by repeat (first | (with_reducible first | exact HB.out | apply below_alloc | apply pw_below_drewN | apply below_drew1) | exact HB.out)) hb); have n1_ := Aside0.mk (hbox); have n2_ := Aside0.mk ((by rw [hg]; exact (below_size (by repeat (first | (with_reducible first | exact HB.out | apply below_alloc | apply pw_below_drewN | apply below_drew1) | exact HB.out))) : w.heap.size ≤ gb130)); have n3_ := Aside0.mk ((by rw [hg]; exact (below_size (by repeat (first | (with_reducible first | exact HB.out | apply below_alloc | apply pw_below_drewN | apply below_drew1) | exact HB.out))) : w.heap.size ≤ gb130)); clear HB; have HB := n0_; have BK130 := n1_; have GW130 := n2_; have GE130 := n3_; clear n0_ n1_ n2_ n3_; clear hb hbox hg; have hcz26_0 : w25.cell? ⟨gb130, 0, none⟩ = some (.int .i64 a0_0) := (blk_cell BK130.out 0).trans rfl; have hcz26_1 : w25.cell? ⟨gb130, 1, none⟩ = some (.bool false) := (blk_cell BK130.out 1).trans rfl; have hcz26_2 : w25.cell? ⟨gb130, 2, none⟩ = some (.bool a0_2) := (blk_cell BK130.out 2).trans rfl; have hcz26_3 : w25.cell? ⟨gb130, 3, none⟩ = some (.bool a0_3) := (blk_cell BK130.out 3).trans rfl; have hcz26_4 : w25.cell? ⟨gb130, 4, none⟩ = some (.int .i32 a0_4) := (blk_cell BK130.out 4).trans rfl; have hcz26_5 : w25.cell? ⟨gb130, 5, none⟩ = some (.int .i32 a0_5) := (blk_cell BK130.out 5).trans rfl; have hcz26_6 : w25.cell? ⟨gb130, 6, none⟩ = some (.int .i32 a0_6) := (blk_cell BK130.out 6).trans rfl; have hfz26_0 := blk_frozen BK130.out 0; have hfz26_1 := blk_frozen BK130.out 1; have hfz26_2 := blk_frozen BK130.out 2; have hfz26_3 := blk_frozen BK130.out 3; have hfz26_4 := blk_frozen BK130.out 4; have hfz26_5 := blk_frozen BK130.out 5; have hfz26_6 := blk_frozen BK130.out 6))
            go_ret
            exact ⟨by first | rfl | (simp [Nat.add_zero] <;> rfl) | (simp [*, Nat.add_zero] <;> rfl), by repeat (first | (with_reducible first | exact HB.out | apply below_alloc | apply pw_below_drewN | apply below_drew1 | refine below_set ?_ GE130.out) | exact HB.out)⟩
        · rw [if_neg c21] at H
          have c21b0 : decide (a0_5 ≤ 0) = false := decide_eq_false c21
          clear c21
          by_cases c27 : a0_5 > 65536
          · rw [if_pos c27] at H
            have c27b0 : decide (65536 < a0_5) = true := decide_eq_true c27
            clear c27
            by_cases c28 : a0_6 ≤ 0
            · rw [if_pos c28] at H
              have c28b0 : decide (a0_6 ≤ 0) = true := decide_eq_true c28
              clear c28
              obtain rfl := Option.some.inj H
              go_enter Tryz.func23, Tryz.ntmps23
              go_wp2_with (first | ((with_reducible refine gate_dst (N := 1) rfl ?_); refine box_event ?hg (N := 1) ?hd (cs := #[.int .i64 a0_0, .bool false, .bool a0_2, .bool a0_3, .int .i32 a0_4, .int .i32 a0_5, .int .i32 a0_6]) (t := 23) ?hr ?_; (case hd => rfl); (case hg => rfl); (case hr => first | (go_simp; done) | (go_simp; rfl)); intro gb130 hg w29 hbox hb; have n0_ := Aside0.mk (below_step (by repeat (first | (with_reducible first | exact HB.out | apply below_alloc | apply pw_below_drewN | apply below_drew1) | exact HB.out)) hb); have n1_ := Aside0.mk (hbox); have n2_ := Aside0.mk ((by rw [hg]; exact (below_size (by repeat (first | (with_reducible first | exact HB.out | apply below_alloc | apply pw_below_drewN | apply below_drew1) | exact HB.out))) : w.heap.size ≤ gb130)); have n3_ := Aside0.mk ((by rw [hg]; exact (below_size (by repeat (first | (with_reducible first | exact HB.out | apply below_alloc | apply pw_below_drewN | apply below_drew1) | exact HB.out))) : w.heap.size ≤ gb130)); clear HB; have HB := n0_; have BK130 := n1_; have GW130 := n2_; have GE130 := n3_; clear n0_ n1_ n2_ n3_; clear hb hbox hg; have hcz30_0 : w29.cell? ⟨gb130, 0, none⟩ = some (.int .i64 a0_0) := (blk_cell BK130.out 0).trans rfl; have hcz30_1 : w29.cell? ⟨gb130, 1, none⟩ = some (.bool false) := (blk_cell BK130.out 1).trans rfl; have hcz30_2 : w29.cell? ⟨gb130, 2, none⟩ = some (.bool a0_2) := (blk_cell BK130.out 2).trans rfl; have hcz30_3 : w29.cell? ⟨gb130, 3, none⟩ = some (.bool a0_3) := (blk_cell BK130.out 3).trans rfl; have hcz30_4 : w29.cell? ⟨gb130, 4, none⟩ = some (.int .i32 a0_4) := (blk_cell BK130.out 4).trans rfl; have hcz30_5 : w29.cell? ⟨gb130, 5, none⟩ = some (.int .i32 a0_5) := (blk_cell BK130.out 5).trans rfl; have hcz30_6 : w29.cell? ⟨gb130, 6, none⟩ = some (.int .i32 a0_6) := (blk_cell BK130.out 6).trans rfl; have hfz30_0 := blk_frozen BK130.out 0; have hfz30_1 := blk_frozen BK130.out 1; have hfz30_2 := blk_frozen BK130.out 2; have hfz30_3 := blk_frozen BK130.out 3; have hfz30_4 := blk_frozen BK130.out 4; have hfz30_5 := blk_frozen BK130.out 5; have hfz30_6 := blk_frozen BK130.out 6))
              go_ret
              exact ⟨by first | rfl | (simp [Nat.add_zero] <;> rfl) | (simp [*, Nat.add_zero] <;> rfl), by repeat (first | (with_reducible first | exact HB.out | apply below_alloc | apply pw_below_drewN | apply below_drew1 | refine below_set ?_ GE130.out) | exact HB.out)⟩
            · rw [if_neg c28] at H
              have c28b0 : decide (a0_6 ≤ 0) = false := decide_eq_false c28
              clear c28
              obtain rfl := Option.some.inj H
              go_enter Tryz.func23, Tryz.ntmps23
              go_wp2_with (first | ((with_reducible refine gate_dst (N := 1) rfl ?_); refine box_event ?hg (N := 1) ?hd (cs := #[.int .i64 a0_0, .bool false, .bool a0_2, .bool a0_3, .int .i32 a0_4, .int .i32 a0_5, .int .i32 a0_6]) (t := 23) ?hr ?_; (case hd => rfl); (case hg => rfl); (case hr => first | (go_simp; done) | (go_simp; rfl)); intro gb130 hg w31 hbox hb; have n0_ := Aside0.mk (below_step (by repeat (first | (with_reducible first | exact HB.out | apply below_alloc | apply pw_below_drewN | apply below_drew1) | exact HB.out)) hb); have n1_ := Aside0.mk (hbox); have n2_ := Aside0.mk ((by rw [hg]; exact (below_size (by repeat (first | (with_reducible first | exact HB.out | apply below_alloc | apply pw_below_drewN | apply below_drew1) | exact HB.out))) : w.heap.size ≤ gb130)); have n3_ := Aside0.mk ((by rw [hg]; exact (below_size (by repeat (first | (with_reducible first | exact HB.out | apply below_alloc | apply pw_below_drewN | apply below_drew1) | exact HB.out))) : w.heap.size ≤ gb130)); clear HB; have HB := n0_; have BK130 := n1_; have GW130 := n2_; have GE130 := n3_; clear n0_ n1_ n2_ n3_; clear hb hbox hg; have hcz32_0 : w31.cell? ⟨gb130, 0, none⟩ = some (.int .i64 a0_0) := (blk_cell BK130.out 0).trans rfl; have hcz32_1 : w31.cell? ⟨gb130, 1, none⟩ = some (.bool false) := (blk_cell BK130.out 1).trans rfl; have hcz32_2 : w31.cell? ⟨gb130, 2, none⟩ = some (.bool a0_2) := (blk_cell BK130.out 2).trans rfl; have hcz32_3 : w31.cell? ⟨gb130, 3, none⟩ = some (.bool a0_3) := (blk_cell BK130.out 3).trans rfl; have hcz32_4 : w31.cell? ⟨gb130, 4, none⟩ = some (.int .i32 a0_4) := (blk_cell BK130.out 4).trans rfl; have hcz32_5 : w31.cell? ⟨gb130, 5, none⟩ = some (.int .i32 a0_5) := (blk_cell BK130.out 5).trans rfl; have hcz32_6 : w31.cell? ⟨gb130, 6, none⟩ = some (.int .i32 a0_6) := (blk_cell BK130.out 6).trans rfl; have hfz32_0 := blk_frozen BK130.out 0; have hfz32_1 := blk_frozen BK130.out 1; have hfz32_2 := blk_frozen BK130.out 2; have hfz32_3 := blk_frozen BK130.out 3; have hfz32_4 := blk_frozen BK130.out 4; have hfz32_5 := blk_frozen BK130.out 5; have hfz32_6 := blk_frozen BK130.out 6))
              go_ret
              exact ⟨by first | rfl | (simp [Nat.add_zero] <;> rfl) | (simp [*, Nat.add_zero] <;> rfl), by repeat (first | (with_reducible first | exact HB.out | apply below_alloc | apply pw_below_drewN | apply below_drew1 | refine below_set ?_ GE130.out) | exact HB.out)⟩
          · rw [if_neg c27] at H
            have c27b0 : decide (65536 < a0_5) = false := decide_eq_false c27
            clear c27
            obtain rfl := Option.some.inj H
            go_enter Tryz.func23, Tryz.ntmps23
            go_wp2_with (first | ((with_reducible refine gate_dst (N := 1) rfl ?_); refine box_event ?hg (N := 1) ?hd (cs := #[.int .i64 a0_0, .bool false, .bool a0_2, .bool a0_3, .int .i32 a0_4, .int .i32 a0_5, .int .i32 a0_6]) (t := 23) ?hr ?_; (case hd => rfl); (case hg => rfl); (case hr => first | (go_simp; done) | (go_simp; rfl)); intro gb130 hg w33 hbox hb; have n0_ := Aside0.mk (below_step (by repeat (first | (with_reducible first | exact HB.out | apply below_alloc | apply pw_below_drewN | apply below_drew1) | exact HB.out)) hb); have n1_ := Aside0.mk (hbox); have n2_ := Aside0.mk ((by rw [hg]; exact (below_size (by repeat (first | (with_reducible first | exact HB.out | apply below_alloc | apply pw_below_drewN | apply below_drew1) | exact HB.out))) : w.heap.size ≤ gb130)); have n3_ := Aside0.mk ((by rw [hg]; exact (below_size (by repeat (first | (with_reducible first | exact HB.out | apply below_alloc | apply pw_below_drewN | apply below_drew1) | exact HB.out))) : w.heap.size ≤ gb130)); clear HB; have HB := n0_; have BK130 := n1_; have GW130 := n2_; have GE130 := n3_; clear n0_ n1_ n2_ n3_; clear hb hbox hg; have hcz34_0 : w33.cell? ⟨gb130, 0, none⟩ = some (.int .i64 a0_0) := (blk_cell BK130.out 0).trans rfl; have hcz34_1 : w33.cell? ⟨gb130, 1, none⟩ = some (.bool false) := (blk_cell BK130.out 1).trans rfl; have hcz34_2 : w33.cell? ⟨gb130, 2, none⟩ = some (.bool a0_2) := (blk_cell BK130.out 2).trans rfl; have hcz34_3 : w33.cell? ⟨gb130, 3, none⟩ = some (.bool a0_3) := (blk_cell BK130.out 3).trans rfl; have hcz34_4 : w33.cell? ⟨gb130, 4, none⟩ = some (.int .i32 a0_4) := (blk_cell BK130.out 4).trans rfl; have hcz34_5 : w33.cell? ⟨gb130, 5, none⟩ = some (.int .i32 a0_5) := (blk_cell BK130.out 5).trans rfl; have hcz34_6 : w33.cell? ⟨gb130, 6, none⟩ = some (.int .i32 a0_6) := (blk_cell BK130.out 6).trans rfl; have hfz34_0 := blk_frozen BK130.out 0; have hfz34_1 := blk_frozen BK130.out 1; have hfz34_2 := blk_frozen BK130.out 2; have hfz34_3 := blk_frozen BK130.out 3; have hfz34_4 := blk_frozen BK130.out 4; have hfz34_5 := blk_frozen BK130.out 5; have hfz34_6 := blk_frozen BK130.out 6))
            go_ret
            exact ⟨by first | rfl | (simp [Nat.add_zero] <;> rfl) | (simp [*, Nat.add_zero] <;> rfl), by repeat (first | (with_reducible first | exact HB.out | apply below_alloc | apply pw_below_drewN | apply below_drew1 | refine below_set ?_ GE130.out) | exact HB.out)⟩
      · rw [if_neg c20] at H
        have c20b0 : decide (1048576 < a0_4) = false := decide_eq_false c20
        clear c20
        obtain rfl := Option.some.inj H
        go_enter Tryz.func23, Tryz.ntmps23
        go_wp2_with (first | ((with_reducible refine gate_dst (N := 1) rfl ?_); refine box_event ?hg (N := 1) ?hd (cs := #[.int .i64 a0_0, .bool false, .bool a0_2, .bool a0_3, .int .i32 a0_4, .int .i32 a0_5, .int .i32 a0_6]) (t := 23) ?hr ?_; (case hd => rfl); (case hg => rfl); (case hr => first | (go_simp; done) | (go_simp; rfl)); intro gb130 hg w35 hbox hb; have n0_ := Aside0.mk (below_step (by repeat (first | (with_reducible first | exact HB.out | apply below_alloc | apply pw_below_drewN | apply below_drew1) | exact HB.out)) hb); have n1_ := Aside0.mk (hbox); have n2_ := Aside0.mk ((by rw [hg]; exact (below_size (by repeat (first | (with_reducible first | exact HB.out | apply below_alloc | apply pw_below_drewN | apply below_drew1) | exact HB.out))) : w.heap.size ≤ gb130)); have n3_ := Aside0.mk ((by rw [hg]; exact (below_size (by repeat (first | (with_reducible first | exact HB.out | apply below_alloc | apply pw_below_drewN | apply below_drew1) | exact HB.out))) : w.heap.size ≤ gb130)); clear HB; have HB := n0_; have BK130 := n1_; have GW130 := n2_; have GE130 := n3_; clear n0_ n1_ n2_ n3_; clear hb hbox hg; have hcz36_0 : w35.cell? ⟨gb130, 0, none⟩ = some (.int .i64 a0_0) := (blk_cell BK130.out 0).trans rfl; have hcz36_1 : w35.cell? ⟨gb130, 1, none⟩ = some (.bool false) := (blk_cell BK130.out 1).trans rfl; have hcz36_2 : w35.cell? ⟨gb130, 2, none⟩ = some (.bool a0_2) := (blk_cell BK130.out 2).trans rfl; have hcz36_3 : w35.cell? ⟨gb130, 3, none⟩ = some (.bool a0_3) := (blk_cell BK130.out 3).trans rfl; have hcz36_4 : w35.cell? ⟨gb130, 4, none⟩ = some (.int .i32 a0_4) := (blk_cell BK130.out 4).trans rfl; have hcz36_5 : w35.cell? ⟨gb130, 5, none⟩ = some (.int .i32 a0_5) := (blk_cell BK130.out 5).trans rfl; have hcz36_6 : w35.cell? ⟨gb130, 6, none⟩ = some (.int .i32 a0_6) := (blk_cell BK130.out 6).trans rfl; have hfz36_0 := blk_frozen BK130.out 0; have hfz36_1 := blk_frozen BK130.out 1; have hfz36_2 := blk_frozen BK130.out 2; have hfz36_3 := blk_frozen BK130.out 3; have hfz36_4 := blk_frozen BK130.out 4; have hfz36_5 := blk_frozen BK130.out 5; have hfz36_6 := blk_frozen BK130.out 6))
        go_ret
        exact ⟨by first | rfl | (simp [Nat.add_zero] <;> rfl) | (simp [*, Nat.add_zero] <;> rfl), by repeat (first | (with_reducible first | exact HB.out | apply below_alloc | apply pw_below_drewN | apply below_drew1 | refine below_set ?_ GE130.out) | exact HB.out)⟩

end Go.Proofs.YtelocgemofghaaaGreatDoor

/-! Types and their numbers in the compact protocol. Turned by a program (wip/tools/own3.py) from what the kit's print says of these functions. -/
namespace Go.Proofs.YtelocgemofghaaaGreatDoor

open Go.RowKit Go.Proofs.YtelocgemofghaaaGreatDoorW.PrintWords Go.Proofs.YtelocgemofghaaaGreatDoorW.PrintLast Go.Proofs.YtelocgemofghaaaGreatDoorW.PrintMore

attribute [local go_sem] max2_int min2_int max_two min_two max_three min_three max_four min_four

set_option linter.unusedVariables false

set_option linter.unusedSimpArgs false

/-! ### laws_compactType -/

def laws_compactType.f (a0 : Int) : Option (Int) := if a0 = 0 then (some 0) else (if a0 = 2 then (some 1) else (if a0 = 3 then (some 3) else (if a0 = 6 then (some 4) else (if a0 = 8 then (some 5) else (if a0 = 10 then (some 6) else (if a0 = 4 then (some 7) else (if a0 = 11 then (some 8) else (if a0 = 15 then (some 9) else (if a0 = 14 then (some 10) else (if a0 = 13 then (some 11) else (if a0 = 12 then (some 12) else (if a0 = 16 then (some 13) else (some 255)))))))))))))

set_option maxHeartbeats 8000000 in
set_option maxRecDepth 100000 in
theorem laws_compactType.calls (a0 : Int) (r : Int) (w : World) (h : laws_compactType.f a0 = some r) :
    Calls Tryz.prog 35 #[.int .i64 a0] w fun e w' => e = .returned (.int .u8 r) ∧ Drawn0 w w' := by
  have H : (if a0 = 0 then (some 0) else (if a0 = 2 then (some 1) else (if a0 = 3 then (some 3) else (if a0 = 6 then (some 4) else (if a0 = 8 then (some 5) else (if a0 = 10 then (some 6) else (if a0 = 4 then (some 7) else (if a0 = 11 then (some 8) else (if a0 = 15 then (some 9) else (if a0 = 14 then (some 10) else (if a0 = 13 then (some 11) else (if a0 = 12 then (some 12) else (if a0 = 16 then (some 13) else (some 255)))))))))))))) = some r := h
  clear h
  by_cases c2 : a0 = 0
  · rw [if_pos c2] at H
    have c2b0 : (a0 == 0) = true := beq_iff_eq.mpr c2
    have c2b1 : (a0 != 0) = false := bne_eq_false_iff_eq.mpr c2
    clear c2
    obtain rfl := Option.some.inj H
    go_enter Tryz.func35, Tryz.ntmps35
    go_wp2
    go_ret
    exact ⟨by first | rfl | (simp; done) | (simp [*]; done), by repeat (first | exact Drawn0.refl _ | apply Drawn0.step)⟩
  · rw [if_neg c2] at H
    have c2b0 : (a0 == 0) = false := beq_eq_false_iff_ne.mpr c2
    have c2b1 : (a0 != 0) = true := bne_iff_ne.mpr c2
    by_cases c3 : a0 = 2
    · rw [if_pos c3] at H
      have c3b0 : (a0 == 2) = true := beq_iff_eq.mpr c3
      have c3b1 : (a0 != 2) = false := bne_eq_false_iff_eq.mpr c3
      clear c3
      obtain rfl := Option.some.inj H
      go_enter Tryz.func35, Tryz.ntmps35
      go_wp2
      go_ret
      exact ⟨by first | rfl | (simp; done) | (simp [*]; done), by repeat (first | exact Drawn0.refl _ | apply Drawn0.step)⟩
    · rw [if_neg c3] at H
      have c3b0 : (a0 == 2) = false := beq_eq_false_iff_ne.mpr c3
      have c3b1 : (a0 != 2) = true := bne_iff_ne.mpr c3
      by_cases c4 : a0 = 3
      · rw [if_pos c4] at H
        have c4b0 : (a0 == 3) = true := beq_iff_eq.mpr c4
        have c4b1 : (a0 != 3) = false := bne_eq_false_iff_eq.mpr c4
        clear c4
        obtain rfl := Option.some.inj H
        go_enter Tryz.func35, Tryz.ntmps35
        go_wp2
        go_ret
        exact ⟨by first | rfl | (simp; done) | (simp [*]; done), by repeat (first | exact Drawn0.refl _ | apply Drawn0.step)⟩
      · rw [if_neg c4] at H
        have c4b0 : (a0 == 3) = false := beq_eq_false_iff_ne.mpr c4
        have c4b1 : (a0 != 3) = true := bne_iff_ne.mpr c4
        by_cases c5 : a0 = 6
        · rw [if_pos c5] at H
          have c5b0 : (a0 == 6) = true := beq_iff_eq.mpr c5
          have c5b1 : (a0 != 6) = false := bne_eq_false_iff_eq.mpr c5
          clear c5
          obtain rfl := Option.some.inj H
          go_enter Tryz.func35, Tryz.ntmps35
          go_wp2
          go_ret
          exact ⟨by first | rfl | (simp; done) | (simp [*]; done), by repeat (first | exact Drawn0.refl _ | apply Drawn0.step)⟩
        · rw [if_neg c5] at H
          have c5b0 : (a0 == 6) = false := beq_eq_false_iff_ne.mpr c5
          have c5b1 : (a0 != 6) = true := bne_iff_ne.mpr c5
          by_cases c6 : a0 = 8
          · rw [if_pos c6] at H
            have c6b0 : (a0 == 8) = true := beq_iff_eq.mpr c6
            have c6b1 : (a0 != 8) = false := bne_eq_false_iff_eq.mpr c6
            clear c6
            obtain rfl := Option.some.inj H
            go_enter Tryz.func35, Tryz.ntmps35
            go_wp2
            go_ret
            exact ⟨by first | rfl | (simp; done) | (simp [*]; done), by repeat (first | exact Drawn0.refl _ | apply Drawn0.step)⟩
          · rw [if_neg c6] at H
            have c6b0 : (a0 == 8) = false := beq_eq_false_iff_ne.mpr c6
            have c6b1 : (a0 != 8) = true := bne_iff_ne.mpr c6
            by_cases c7 : a0 = 10
            · rw [if_pos c7] at H
              have c7b0 : (a0 == 10) = true := beq_iff_eq.mpr c7
              have c7b1 : (a0 != 10) = false := bne_eq_false_iff_eq.mpr c7
              clear c7
              obtain rfl := Option.some.inj H
              go_enter Tryz.func35, Tryz.ntmps35
              go_wp2
              go_ret
              exact ⟨by first | rfl | (simp; done) | (simp [*]; done), by repeat (first | exact Drawn0.refl _ | apply Drawn0.step)⟩
            · rw [if_neg c7] at H
              have c7b0 : (a0 == 10) = false := beq_eq_false_iff_ne.mpr c7
              have c7b1 : (a0 != 10) = true := bne_iff_ne.mpr c7
              by_cases c8 : a0 = 4
              · rw [if_pos c8] at H
                have c8b0 : (a0 == 4) = true := beq_iff_eq.mpr c8
                have c8b1 : (a0 != 4) = false := bne_eq_false_iff_eq.mpr c8
                clear c8
                obtain rfl := Option.some.inj H
                go_enter Tryz.func35, Tryz.ntmps35
                go_wp2
                go_ret
                exact ⟨by first | rfl | (simp; done) | (simp [*]; done), by repeat (first | exact Drawn0.refl _ | apply Drawn0.step)⟩
              · rw [if_neg c8] at H
                have c8b0 : (a0 == 4) = false := beq_eq_false_iff_ne.mpr c8
                have c8b1 : (a0 != 4) = true := bne_iff_ne.mpr c8
                by_cases c9 : a0 = 11
                · rw [if_pos c9] at H
                  have c9b0 : (a0 == 11) = true := beq_iff_eq.mpr c9
                  have c9b1 : (a0 != 11) = false := bne_eq_false_iff_eq.mpr c9
                  clear c9
                  obtain rfl := Option.some.inj H
                  go_enter Tryz.func35, Tryz.ntmps35
                  go_wp2
                  go_ret
                  exact ⟨by first | rfl | (simp; done) | (simp [*]; done), by repeat (first | exact Drawn0.refl _ | apply Drawn0.step)⟩
                · rw [if_neg c9] at H
                  have c9b0 : (a0 == 11) = false := beq_eq_false_iff_ne.mpr c9
                  have c9b1 : (a0 != 11) = true := bne_iff_ne.mpr c9
                  by_cases c10 : a0 = 15
                  · rw [if_pos c10] at H
                    have c10b0 : (a0 == 15) = true := beq_iff_eq.mpr c10
                    have c10b1 : (a0 != 15) = false := bne_eq_false_iff_eq.mpr c10
                    clear c10
                    obtain rfl := Option.some.inj H
                    go_enter Tryz.func35, Tryz.ntmps35
                    go_wp2
                    go_ret
                    exact ⟨by first | rfl | (simp; done) | (simp [*]; done), by repeat (first | exact Drawn0.refl _ | apply Drawn0.step)⟩
                  · rw [if_neg c10] at H
                    have c10b0 : (a0 == 15) = false := beq_eq_false_iff_ne.mpr c10
                    have c10b1 : (a0 != 15) = true := bne_iff_ne.mpr c10
                    by_cases c11 : a0 = 14
                    · rw [if_pos c11] at H
                      have c11b0 : (a0 == 14) = true := beq_iff_eq.mpr c11
                      have c11b1 : (a0 != 14) = false := bne_eq_false_iff_eq.mpr c11
                      clear c11
                      obtain rfl := Option.some.inj H
                      go_enter Tryz.func35, Tryz.ntmps35
                      go_wp2
                      go_ret
                      exact ⟨by first | rfl | (simp; done) | (simp [*]; done), by repeat (first | exact Drawn0.refl _ | apply Drawn0.step)⟩
                    · rw [if_neg c11] at H
                      have c11b0 : (a0 == 14) = false := beq_eq_false_iff_ne.mpr c11
                      have c11b1 : (a0 != 14) = true := bne_iff_ne.mpr c11
                      by_cases c12 : a0 = 13
                      · rw [if_pos c12] at H
                        have c12b0 : (a0 == 13) = true := beq_iff_eq.mpr c12
                        have c12b1 : (a0 != 13) = false := bne_eq_false_iff_eq.mpr c12
                        clear c12
                        obtain rfl := Option.some.inj H
                        go_enter Tryz.func35, Tryz.ntmps35
                        go_wp2
                        go_ret
                        exact ⟨by first | rfl | (simp; done) | (simp [*]; done), by repeat (first | exact Drawn0.refl _ | apply Drawn0.step)⟩
                      · rw [if_neg c12] at H
                        have c12b0 : (a0 == 13) = false := beq_eq_false_iff_ne.mpr c12
                        have c12b1 : (a0 != 13) = true := bne_iff_ne.mpr c12
                        by_cases c13 : a0 = 12
                        · rw [if_pos c13] at H
                          have c13b0 : (a0 == 12) = true := beq_iff_eq.mpr c13
                          have c13b1 : (a0 != 12) = false := bne_eq_false_iff_eq.mpr c13
                          clear c13
                          obtain rfl := Option.some.inj H
                          go_enter Tryz.func35, Tryz.ntmps35
                          go_wp2
                          go_ret
                          exact ⟨by first | rfl | (simp; done) | (simp [*]; done), by repeat (first | exact Drawn0.refl _ | apply Drawn0.step)⟩
                        · rw [if_neg c13] at H
                          have c13b0 : (a0 == 12) = false := beq_eq_false_iff_ne.mpr c13
                          have c13b1 : (a0 != 12) = true := bne_iff_ne.mpr c13
                          by_cases c14 : a0 = 16
                          · rw [if_pos c14] at H
                            have c14b0 : (a0 == 16) = true := beq_iff_eq.mpr c14
                            have c14b1 : (a0 != 16) = false := bne_eq_false_iff_eq.mpr c14
                            clear c14
                            obtain rfl := Option.some.inj H
                            go_enter Tryz.func35, Tryz.ntmps35
                            go_wp2
                            go_ret
                            exact ⟨by first | rfl | (simp; done) | (simp [*]; done), by repeat (first | exact Drawn0.refl _ | apply Drawn0.step)⟩
                          · rw [if_neg c14] at H
                            have c14b0 : (a0 == 16) = false := beq_eq_false_iff_ne.mpr c14
                            have c14b1 : (a0 != 16) = true := bne_iff_ne.mpr c14
                            obtain rfl := Option.some.inj H
                            go_enter Tryz.func35, Tryz.ntmps35
                            go_wp2
                            go_ret
                            exact ⟨by first | rfl | (simp; done) | (simp [*]; done), by repeat (first | exact Drawn0.refl _ | apply Drawn0.step)⟩

end Go.Proofs.YtelocgemofghaaaGreatDoor

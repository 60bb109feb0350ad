/- Lists in any order. No condition. -/
import Derived.Test.YtnpiheoglilcbaaGreatDoorProg
import Derived.Below
import Derived.Deep.Draws
import Derived.Deep.AppendLies
import Derived.Maps.AppendAt
import Derived.OwnWalk
import Derived.Laws.BytesArg
import Derived.Laws.MakeOwn
import Derived.Laws.OwnMore
import Derived.Deep.OwnRows
import Derived.Tactics
import Derived.Lib.ConvBytes
import Derived.Laws.Slices
import Derived.WalkKit
import Derived.KernelRfl
import Derived.RowKit3
import Derived.Deep.LoopGhost
import Derived.Deep.QuietTactic
import Derived.BigQuiet
import Derived.WideLaws
import Derived.Deep.DeepCutAuto
import Derived.Deep.CutBlock
import Derived.Deep.RegionHeld3
import Derived.Laws.Rows
import Derived.Lib.AppendStr
import Derived.ArgAppend
import Derived.Laws.IdiomCopy
import Derived.OrdersHeld
import Derived.Laws.BitsLemmas
import Derived.RowKit
import Derived.Test.YtnpiheoglilcbaaGreatDoorWWords
import Derived.Test.YtnpiheoglilcbaaGreatDoorWLast
import Derived.Test.YtnpiheoglilcbaaGreatDoorWTab
import Derived.Test.YtnpiheoglilcbaaGreatDoorWFour
import Derived.Test.YtnpiheoglilcbaaGreatDoorWQPut
import Derived.Test.YtnpiheoglilcbaaGreatDoorWApart
import Derived.Test.YtnpiheoglilcbaaGreatDoorWArr
import Derived.Test.YtnpiheoglilcbaaGreatDoorWZeros
import Derived.Test.YtnpiheoglilcbaaGreatDoorWFoot
import Derived.Test.YtnpiheoglilcbaaGreatDoorWKept
import Derived.Test.YtnpiheoglilcbaaGreatDoorWShare
import Derived.Test.YtnpiheoglilcbaaGreatDoorWN
import Derived.Test.YtnpiheoglilcbaaGreatDoorWFootNe
import Derived.Test.YtnpiheoglilcbaaGreatDoorWAt
import Derived.Test.YtnpiheoglilcbaaGreatDoorWEqStruct
import Derived.Test.YtnpiheoglilcbaaGreatDoorWRepsOne
import Derived.Test.YtnpiheoglilcbaaGreatDoorWInv
import Derived.Test.YtnpiheoglilcbaaGreatDoorWInvWords
import Derived.Test.YtnpiheoglilcbaaGreatDoorWGuard
import Derived.Test.YtnpiheoglilcbaaGreatDoorWNEv
import Derived.Test.YtnpiheoglilcbaaGreatDoorWMore
import Derived.Test.YtnpiheoglilcbaaGreatDoorMb
import Derived.Test.YtnpiheoglilcbaaGreatDoorMc
/-! The specification of lists in any order. Turned by a program (wip/tools/own2.py) from what the kit's print says of these functions. -/
namespace Go.Proofs.YtnpiheoglilcbaaGreatDoor
open Go.RowKit Go.Proofs.YtnpiheoglilcbaaGreatDoorW.PrintWords Go.Proofs.YtnpiheoglilcbaaGreatDoorW.PrintLast Go.Proofs.YtnpiheoglilcbaaGreatDoorW.PrintMore
attribute [local go_sem] max2_int min2_int max_two min_two max_three min_three max_four min_four
set_option linter.unusedVariables false
set_option linter.unusedSimpArgs false

/-! ### spec_classOf -/
def spec_classOf.f (l0 : List Int) (a1 : Int) : Option (Int) := if a1 < 0 then (some 0) else (if a1 ≥ (l0.length : Int) then (some 0) else (if 0 ≤ a1 then (if a1 < (l0.length : Int) then (some (rd l0 a1)) else (none)) else (none)))
set_option maxHeartbeats 8000000 in
set_option maxRecDepth 100000 in
theorem spec_classOf.calls (A0 : Option Addr) (c0 : Nat) (l0 : List Int) (a1 : Int) (r : Int) (w : World) (hr0 : Kd.C (Kd.int .i64) w A0 l0.length l0) (hc0 : l0.length ≤ c0) (h : spec_classOf.f l0 a1 = some r) :
    Calls Tryz.prog 40 #[.slice A0 l0.length c0, .int .i64 a1] w fun e w' => e = .returned (.int .i64 r) ∧ Drawn0 w w' := by
  have HR0 := Aside0.mk hr0
  have HC0 := Aside0.mk hc0
  clear hr0 hc0
  have H : (if a1 < 0 then (some 0) else (if a1 ≥ (l0.length : Int) then (some 0) else (if 0 ≤ a1 then (if a1 < (l0.length : Int) then (some (rd l0 a1)) else (none)) else (none)))) = some r := h
  clear h
  by_cases c3 : a1 < 0
  · rw [if_pos c3] at H
    have c3b0 : decide (a1 < 0) = true := decide_eq_true c3
    clear c3
    obtain rfl := Option.some.inj H
    go_enter Tryz.func40, Tryz.ntmps40
    go_wp2
    go_ret
    exact ⟨by first | rfl | (simp; done) | (simp [*]; done), by repeat (first | exact Drawn0.refl _ | apply Drawn0.step)⟩
  · rw [if_neg c3] at H
    have c3b0 : decide (a1 < 0) = false := decide_eq_false c3
    clear c3
    by_cases c4 : a1 ≥ (l0.length : Int)
    · rw [if_pos c4] at H
      have c4b0 : decide ((l0.length : Int) ≤ a1) = true := decide_eq_true c4
      clear c4
      obtain rfl := Option.some.inj H
      go_enter Tryz.func40, Tryz.ntmps40
      go_wp2
      go_ret
      exact ⟨by first | rfl | (simp; done) | (simp [*]; done), by repeat (first | exact Drawn0.refl _ | apply Drawn0.step)⟩
    · rw [if_neg c4] at H
      have c4b0 : decide ((l0.length : Int) ≤ a1) = false := decide_eq_false c4
      clear c4
      by_cases c5 : 0 ≤ a1
      · rw [if_pos c5] at H
        have c5b0 : decide (0 ≤ a1) = true := decide_eq_true c5
        clear c5
        by_cases c6 : a1 < (l0.length : Int)
        · rw [if_pos c6] at H
          have c6b0 : decide (a1 < (l0.length : Int)) = true := decide_eq_true c6
          clear c6
          obtain rfl := Option.some.inj H
          have p108 : 0 ≤ (a1 : Int) := of_decide_eq_true (by first | (with_reducible assumption) | assumption)
          have q108 : a1 < (l0.length : Int) := of_decide_eq_true (by first | (with_reducible assumption) | assumption)
          obtain ⟨ad108, e108, hx108_0⟩ := Kd.at_int HR0.out a1 p108 q108
          cases e108
          replace p108 := eq_true p108
          replace q108 := eq_true q108
          go_enter Tryz.func40, Tryz.ntmps40
          go_wp2
          go_ret
          exact ⟨by first | rfl | (simp; done) | (simp [*]; done), by repeat (first | exact Drawn0.refl _ | apply Drawn0.step)⟩
        · rw [if_neg c6] at H
          exact absurd H (by simp)
      · rw [if_neg c5] at H
        exact absurd H (by simp)


/-! ### spec_Unordered -/
mutual
def spec_Unordered.l0 : Nat → List Int → List Int → List Int → Int → Option (Bool)
  | 0, _, _, _, _ => none
  | k + 1, x0, x1, x2, x7 => if x7 < (x0.length : Int) then (spec_Unordered.l1 k x0 x1 x2 x7 0 0) else (some true)
def spec_Unordered.l1 : Nat → List Int → List Int → List Int → Int → Int → Int → Option (Bool)
  | 0, _, _, _, _, _, _ => none
  | k + 1, x0, x1, x2, x7, x8, x9 => if x9 < (x0.length : Int) then (if 0 ≤ x9 then ((spec_classOf.f x2 (rd x0 x9)).bind fun t110 => (if 0 ≤ x7 then (if x7 < (x0.length : Int) then ((spec_classOf.f x2 (rd x0 x7)).bind fun t112 => (if t110 = t112 then (spec_Unordered.j2 k x0 x1 x2 x7 (wrap64 (x8 + 1)) x9) else (spec_Unordered.j2 k x0 x1 x2 x7 x8 x9))) else (none)) else (none))) else (none)) else (if x8 = 0 then (spec_Unordered.l0 k x0 x1 x2 (wrap64 (x7 + 1))) else (some false))
def spec_Unordered.j2 : Nat → List Int → List Int → List Int → Int → Int → Int → Option (Bool)
  | 0, _, _, _, _, _, _ => none
  | k + 1, x0, x1, x2, x7, x8, x9 => if 0 ≤ x9 then (if x9 < (x1.length : Int) then ((spec_classOf.f x2 (rd x1 x9)).bind fun t114 => (if 0 ≤ x7 then (if x7 < (x0.length : Int) then ((spec_classOf.f x2 (rd x0 x7)).bind fun t116 => (if t114 = t116 then (spec_Unordered.l1 k x0 x1 x2 x7 (wrap64 (x8 - 1)) (wrap64 (x9 + 1))) else (spec_Unordered.l1 k x0 x1 x2 x7 x8 (wrap64 (x9 + 1))))) else (none)) else (none))) else (none)) else (none)
end
def spec_Unordered.f (k : Nat) (l0 : List Int) (l1 : List Int) (l2 : List Int) : Option (Bool) := if (l0.length : Int) = (l1.length : Int) then (spec_Unordered.l0 k l0 l1 l2 0) else (some false)
theorem spec_Unordered.mono_l : ∀ k, (∀ y0 y1 y2 y3, LeO (spec_Unordered.l0 k y0 y1 y2 y3) (spec_Unordered.l0 (k + 1) y0 y1 y2 y3)) ∧ (∀ y0 y1 y2 y3 y4 y5, LeO (spec_Unordered.l1 k y0 y1 y2 y3 y4 y5) (spec_Unordered.l1 (k + 1) y0 y1 y2 y3 y4 y5)) ∧ (∀ y0 y1 y2 y3 y4 y5, LeO (spec_Unordered.j2 k y0 y1 y2 y3 y4 y5) (spec_Unordered.j2 (k + 1) y0 y1 y2 y3 y4 y5))
  | 0 => ⟨fun _ _ _ _ r h => by simp [spec_Unordered.l0] at h, fun _ _ _ _ _ _ r h => by simp [spec_Unordered.l1] at h, fun _ _ _ _ _ _ r h => by simp [spec_Unordered.j2] at h⟩
  | k + 1 => by
    obtain ⟨ih0, ih1, ih2⟩ := spec_Unordered.mono_l k
    refine ⟨?_, ?_, ?_⟩
    · intro y0 y1 y2 y3
      unfold spec_Unordered.l0
      repeat' first
      | (with_reducible exact ih0 _ _ _ _)
      | (with_reducible exact ih1 _ _ _ _ _ _)
      | (with_reducible exact ih2 _ _ _ _ _ _)
      | (with_reducible exact LeO.refl _)
      | (with_reducible exact LeO.none _)
      | (with_reducible refine LeO.ite ?_ ?_)
      | (with_reducible refine LeO.bind ?_ (fun _ => ?_))
      | exact ih0 _ _ _ _
      | exact ih1 _ _ _ _ _ _
      | exact ih2 _ _ _ _ _ _
      | exact LeO.none _
      | refine LeO.ite ?_ ?_
      | refine LeO.bind ?_ (fun _ => ?_)
    · intro y0 y1 y2 y3 y4 y5
      unfold spec_Unordered.l1
      repeat' first
      | (with_reducible exact ih0 _ _ _ _)
      | (with_reducible exact ih1 _ _ _ _ _ _)
      | (with_reducible exact ih2 _ _ _ _ _ _)
      | (with_reducible exact LeO.refl _)
      | (with_reducible exact LeO.none _)
      | (with_reducible refine LeO.ite ?_ ?_)
      | (with_reducible refine LeO.bind ?_ (fun _ => ?_))
      | exact ih0 _ _ _ _
      | exact ih1 _ _ _ _ _ _
      | exact ih2 _ _ _ _ _ _
      | exact LeO.none _
      | refine LeO.ite ?_ ?_
      | refine LeO.bind ?_ (fun _ => ?_)
    · intro y0 y1 y2 y3 y4 y5
      unfold spec_Unordered.j2
      repeat' first
      | (with_reducible exact ih0 _ _ _ _)
      | (with_reducible exact ih1 _ _ _ _ _ _)
      | (with_reducible exact ih2 _ _ _ _ _ _)
      | (with_reducible exact LeO.refl _)
      | (with_reducible exact LeO.none _)
      | (with_reducible refine LeO.ite ?_ ?_)
      | (with_reducible refine LeO.bind ?_ (fun _ => ?_))
      | exact ih0 _ _ _ _
      | exact ih1 _ _ _ _ _ _
      | exact ih2 _ _ _ _ _ _
      | exact LeO.none _
      | refine LeO.ite ?_ ?_
      | refine LeO.bind ?_ (fun _ => ?_)
theorem spec_Unordered.mono : ∀ a0 a1 a2 k, LeO (spec_Unordered.f k a0 a1 a2) (spec_Unordered.f (k + 1) a0 a1 a2) := by
  intro a0 a1 a2 k
  obtain ⟨ih0, ih1, ih2⟩ := spec_Unordered.mono_l k
  unfold spec_Unordered.f
  repeat' first
      | (with_reducible exact ih0 _ _ _ _)
      | (with_reducible exact ih1 _ _ _ _ _ _)
      | (with_reducible exact ih2 _ _ _ _ _ _)
      | (with_reducible exact LeO.refl _)
      | (with_reducible exact LeO.none _)
      | (with_reducible refine LeO.ite ?_ ?_)
      | (with_reducible refine LeO.bind ?_ (fun _ => ?_))
      | exact ih0 _ _ _ _
      | exact ih1 _ _ _ _ _ _
      | exact ih2 _ _ _ _ _ _
      | exact LeO.none _
      | refine LeO.ite ?_ ?_
      | refine LeO.bind ?_ (fun _ => ?_)
set_option maxHeartbeats 8000000 in
set_option maxRecDepth 100000 in
theorem spec_Unordered.calls (k : Nat) (A0 : Option Addr) (c0 : Nat) (l0 : List Int) (A1 : Option Addr) (c1 : Nat) (l1 : List Int) (A2 : Option Addr) (c2 : Nat) (l2 : List Int) (r : Bool) (w : World) (hr0 : Kd.C (Kd.int .i64) w A0 l0.length l0) (hc0 : l0.length ≤ c0) (hr1 : Kd.C (Kd.int .i64) w A1 l1.length l1) (hc1 : l1.length ≤ c1) (hr2 : Kd.C (Kd.int .i64) w A2 l2.length l2) (hc2 : l2.length ≤ c2) (h : spec_Unordered.f k l0 l1 l2 = some r) :
    Calls Tryz.prog 21 #[.slice A0 l0.length c0, .slice A1 l1.length c1, .slice A2 l2.length c2] w fun e w' => e = .returned (.bool r) ∧ Drawn0 w w' := by
  have HR0 := Aside0.mk hr0
  have HC0 := Aside0.mk hc0
  clear hr0 hc0
  have HR1 := Aside0.mk hr1
  have HC1 := Aside0.mk hc1
  clear hr1 hc1
  have HR2 := Aside0.mk hr2
  have HC2 := Aside0.mk hc2
  clear hr2 hc2
  have H : (if (l0.length : Int) = (l1.length : Int) then (spec_Unordered.l0 k l0 l1 l2 0) else (some false)) = some r := h
  clear h
  by_cases c4 : (l0.length : Int) = (l1.length : Int)
  · rw [if_pos c4] at H
    have c4b0 : ((l0.length : Int) == (l1.length : Int)) = true := beq_iff_eq.mpr c4
    have c4b1 : ((l0.length : Int) != (l1.length : Int)) = false := bne_eq_false_iff_eq.mpr c4
    have c4b2 : (l0.length == l1.length) = true := by first | simpa using c4 | (simp at c4 ⊢; omega)
    clear c4
    have H' := Aside0.mk H
    clear H
    go_enter Tryz.func21, Tryz.ntmps21
    go_wp2
    repeat (go_quiet (fail); try go_wp2)
    go_loopg [7] k (fun kq v7 w' => ∃ (x7_1 : Int), v7 = .int .i64 x7_1 ∧ Aside0 (spec_Unordered.l0 kq l0 l1 l2 x7_1 = some r) ∧ Aside0 (kq ≤ k) ∧ Drawn0 w w')
    case atStart => exact ⟨(0), (by first | rfl | (simp; done) | (simp [*]; done)), H', ⟨Nat.le_refl _⟩, by repeat (first | exact Drawn0.refl _ | apply Drawn0.step)⟩
    case round =>
      clear H'
      try clear c1
      try clear c2
      try clear p2
      try clear c4
      try clear c4b0
      try clear c4b1
      try clear c4b2
      obtain ⟨x7_1, rfl, HA, HK1, ⟨m1, rfl⟩⟩ := hrel
      cases gk with
      | zero => exact absurd HA.out (by simp [spec_Unordered.l0])
      | succ k1 =>
        have H := HA.out
        clear HA
        simp only [spec_Unordered.l0] at H
        by_cases c5 : x7_1 < (l0.length : Int)
        · rw [if_pos c5] at H
          have c5b0 : decide (x7_1 < (l0.length : Int)) = true := decide_eq_true c5
          clear c5
          have H' := Aside0.mk H
          clear H
          go_wp2
          repeat (go_quiet (fail); try go_wp2)
          go_loopg [8, 9] k1 (fun kq v8 v9 w' => ∃ (x8_2 : Int) (x9_2 : Int), v8 = .int .i64 x8_2 ∧ v9 = .int .i64 x9_2 ∧ Aside0 (spec_Unordered.l1 kq l0 l1 l2 x7_1 x8_2 x9_2 = some r) ∧ Aside0 (kq ≤ k1) ∧ Drawn0 w w')
          case atStart => exact ⟨(0), (0), (by first | rfl | (simp; done) | (simp [*]; done)), (by first | rfl | (simp; done) | (simp [*]; done)), H', ⟨Nat.le_refl _⟩, by repeat (first | exact Drawn0.refl _ | apply Drawn0.step)⟩
          case round =>
            clear H'
            try clear c1
            try clear c2
            try clear p2
            try clear c4
            try clear c4b0
            try clear c4b1
            try clear c4b2
            try clear c5
            try clear c5b0
            try clear p2
            obtain ⟨x8_2, x9_2, rfl, rfl, HA, HK2, ⟨m2, rfl⟩⟩ := hrel
            cases gk with
            | zero => exact absurd HA.out (by simp [spec_Unordered.l1])
            | succ k2 =>
              have H := HA.out
              clear HA
              simp only [spec_Unordered.l1] at H
              by_cases c6 : x9_2 < (l0.length : Int)
              · rw [if_pos c6] at H
                have c6b0 : decide (x9_2 < (l0.length : Int)) = true := decide_eq_true c6
                clear c6
                by_cases c7 : 0 ≤ x9_2
                · rw [if_pos c7] at H
                  have c7b0 : decide (0 ≤ x9_2) = true := decide_eq_true c7
                  clear c7
                  replace H := Option.bind_eq_some_iff.mp H
                  obtain ⟨t110, A80, H⟩ := H
                  replace H : (if 0 ≤ x7_1 then (if x7_1 < (l0.length : Int) then ((spec_classOf.f l2 (rd l0 x7_1)).bind fun t112 => (if t110 = t112 then (spec_Unordered.j2 k2 l0 l1 l2 x7_1 (wrap64 (x8_2 + 1)) x9_2) else (spec_Unordered.j2 k2 l0 l1 l2 x7_1 x8_2 x9_2))) else (none)) else (none)) = some r := H
                  have A8 := Aside0.mk A80
                  clear A80
                  by_cases c9 : 0 ≤ x7_1
                  · rw [if_pos c9] at H
                    have c9b0 : decide (0 ≤ x7_1) = true := decide_eq_true c9
                    clear c9
                    by_cases c10 : x7_1 < (l0.length : Int)
                    · rw [if_pos c10] at H
                      have c10b0 : decide (x7_1 < (l0.length : Int)) = true := decide_eq_true c10
                      clear c10
                      replace H := Option.bind_eq_some_iff.mp H
                      obtain ⟨t112, A110, H⟩ := H
                      replace H : (if t110 = t112 then (spec_Unordered.j2 k2 l0 l1 l2 x7_1 (wrap64 (x8_2 + 1)) x9_2) else (spec_Unordered.j2 k2 l0 l1 l2 x7_1 x8_2 x9_2)) = some r := H
                      have A11 := Aside0.mk A110
                      clear A110
                      have HC12 := Aside0.mk H
                      clear H
                      have p109 : 0 ≤ (x9_2 : Int) := of_decide_eq_true (by first | (with_reducible assumption) | assumption)
                      have q109 : x9_2 < (l0.length : Int) := of_decide_eq_true (by first | (with_reducible assumption) | assumption)
                      obtain ⟨ad109, e109, hx109_0⟩ := Kd.at_int HR0.out x9_2 p109 q109
                      cases e109
                      replace p109 := eq_true p109
                      replace q109 := eq_true q109
                      go_upto_if 39 with (first | (go_at_call 40; (with_reducible refine (spec_classOf.calls _ _ l2 (rd l0 x9_2) t110 _ ?side1 ?side2 A8.out).mono ?_); (case side1 => repeat (first | exact HR2.out | (with_reducible refine Kd.C_alloc ?_ _) | (with_reducible refine Kd.C_drewN ?_ _) | (with_reducible refine Kd.C_drew ?_))); (case side2 => exact HC2.out); rintro e w' ⟨rfl, ⟨nd, rfl⟩⟩; (try first | exact ⟨rfl, _, World.drewN_drewN _ _ _⟩ | exact ⟨rfl, _, Eq.trans (World.drewN_drewN _ _ _) (congrArg (World.drewN _) (Nat.add_assoc _ _ _))⟩); have p111 : 0 ≤ (x7_1 : Int) := of_decide_eq_true (by first | (with_reducible assumption) | assumption); have q111 : x7_1 < (l0.length : Int) := of_decide_eq_true (by first | (with_reducible assumption) | assumption); obtain ⟨ad111, e111, hx111_0⟩ := Kd.at_int HR0.out x7_1 p111 q111; obtain rfl : ad109 = ad111 := (by injection e111); replace p111 := eq_true p111; replace q111 := eq_true q111) | (go_at_call 40; (with_reducible refine (spec_classOf.calls _ _ l2 (rd l0 x7_1) t112 _ ?side1 ?side2 A11.out).mono ?_); (case side1 => repeat (first | exact HR2.out | (with_reducible refine Kd.C_alloc ?_ _) | (with_reducible refine Kd.C_drewN ?_ _) | (with_reducible refine Kd.C_drew ?_))); (case side2 => exact HC2.out); rintro e w' ⟨rfl, ⟨nd, rfl⟩⟩; (try first | exact ⟨rfl, _, World.drewN_drewN _ _ _⟩ | exact ⟨rfl, _, Eq.trans (World.drewN_drewN _ _ _) (congrArg (World.drewN _) (Nat.add_assoc _ _ _))⟩)))
                      repeat (go_quiet (first | (go_at_call 40; (with_reducible refine (spec_classOf.calls _ _ l2 (rd l0 x9_2) t110 _ ?side1 ?side2 A8.out).mono ?_); (case side1 => repeat (first | exact HR2.out | (with_reducible refine Kd.C_alloc ?_ _) | (with_reducible refine Kd.C_drewN ?_ _) | (with_reducible refine Kd.C_drew ?_))); (case side2 => exact HC2.out); rintro e w' ⟨rfl, ⟨nd, rfl⟩⟩; (try first | exact ⟨rfl, _, World.drewN_drewN _ _ _⟩ | exact ⟨rfl, _, Eq.trans (World.drewN_drewN _ _ _) (congrArg (World.drewN _) (Nat.add_assoc _ _ _))⟩); have p111 : 0 ≤ (x7_1 : Int) := of_decide_eq_true (by first | (with_reducible assumption) | assumption); have q111 : x7_1 < (l0.length : Int) := of_decide_eq_true (by first | (with_reducible assumption) | assumption); obtain ⟨ad111, e111, hx111_0⟩ := Kd.at_int HR0.out x7_1 p111 q111; obtain rfl : ad109 = ad111 := (by injection e111); replace p111 := eq_true p111; replace q111 := eq_true q111) | (go_at_call 40; (with_reducible refine (spec_classOf.calls _ _ l2 (rd l0 x7_1) t112 _ ?side1 ?side2 A11.out).mono ?_); (case side1 => repeat (first | exact HR2.out | (with_reducible refine Kd.C_alloc ?_ _) | (with_reducible refine Kd.C_drewN ?_ _) | (with_reducible refine Kd.C_drew ?_))); (case side2 => exact HC2.out); rintro e w' ⟨rfl, ⟨nd, rfl⟩⟩; (try first | exact ⟨rfl, _, World.drewN_drewN _ _ _⟩ | exact ⟨rfl, _, Eq.trans (World.drewN_drewN _ _ _) (congrArg (World.drewN _) (Nat.add_assoc _ _ _))⟩))); go_upto_if 39 with (first | (go_at_call 40; (with_reducible refine (spec_classOf.calls _ _ l2 (rd l0 x9_2) t110 _ ?side1 ?side2 A8.out).mono ?_); (case side1 => repeat (first | exact HR2.out | (with_reducible refine Kd.C_alloc ?_ _) | (with_reducible refine Kd.C_drewN ?_ _) | (with_reducible refine Kd.C_drew ?_))); (case side2 => exact HC2.out); rintro e w' ⟨rfl, ⟨nd, rfl⟩⟩; (try first | exact ⟨rfl, _, World.drewN_drewN _ _ _⟩ | exact ⟨rfl, _, Eq.trans (World.drewN_drewN _ _ _) (congrArg (World.drewN _) (Nat.add_assoc _ _ _))⟩); have p111 : 0 ≤ (x7_1 : Int) := of_decide_eq_true (by first | (with_reducible assumption) | assumption); have q111 : x7_1 < (l0.length : Int) := of_decide_eq_true (by first | (with_reducible assumption) | assumption); obtain ⟨ad111, e111, hx111_0⟩ := Kd.at_int HR0.out x7_1 p111 q111; obtain rfl : ad109 = ad111 := (by injection e111); replace p111 := eq_true p111; replace q111 := eq_true q111) | (go_at_call 40; (with_reducible refine (spec_classOf.calls _ _ l2 (rd l0 x7_1) t112 _ ?side1 ?side2 A11.out).mono ?_); (case side1 => repeat (first | exact HR2.out | (with_reducible refine Kd.C_alloc ?_ _) | (with_reducible refine Kd.C_drewN ?_ _) | (with_reducible refine Kd.C_drew ?_))); (case side2 => exact HC2.out); rintro e w' ⟨rfl, ⟨nd, rfl⟩⟩; (try first | exact ⟨rfl, _, World.drewN_drewN _ _ _⟩ | exact ⟨rfl, _, Eq.trans (World.drewN_drewN _ _ _) (congrArg (World.drewN _) (Nat.add_assoc _ _ _))⟩))))
                      (try simp only [Act.put, List.setIfInBounds_toArray, List.set_cons_zero, List.set_cons_succ])
                      go_cut [8] (fun v8 wc => ∃ (kq : Nat) (x8_11 : Int), v8 = .int .i64 x8_11 ∧ Aside0 (spec_Unordered.j2 kq l0 l1 l2 x7_1 x8_11 x9_2 = some r) ∧ Aside0 (kq ≤ k2) ∧ Drawn0 w wc)
                      case first =>
                        have H := HC12.out
                        clear HC12
                        by_cases c13 : t110 = t112
                        · rw [if_pos c13] at H
                          have c13b0 : (t110 == t112) = true := beq_iff_eq.mpr c13
                          have c13b1 : (t110 != t112) = false := bne_eq_false_iff_eq.mpr c13
                          clear c13
                          (first | rw [c13b0] | (simp only [i64_w, i32_w]; rw [c13b0]) | skip)
                          have H' := Aside0.mk H
                          clear H
                          go_wp2
                          repeat (go_quiet (fail); try go_wp2)
                          go_meet
                          case rel => exact ⟨_, (wrap64 (x8_2 + 1)), (by first | rfl | (simp; done) | (simp [*]; done)), H', ⟨by have := HK1.out; have := HK2.out; first | omega | exact Nat.le_refl _⟩, by repeat (first | exact Drawn0.refl _ | apply Drawn0.step)⟩
                        · rw [if_neg c13] at H
                          have c13b0 : (t110 == t112) = false := beq_eq_false_iff_ne.mpr c13
                          have c13b1 : (t110 != t112) = true := bne_iff_ne.mpr c13
                          (first | rw [c13b0] | (simp only [i64_w, i32_w]; rw [c13b0]) | skip)
                          have H' := Aside0.mk H
                          clear H
                          go_wp2
                          repeat (go_quiet (fail); try go_wp2)
                          go_meet
                          case rel => exact ⟨_, (x8_2), (by first | rfl | (simp; done) | (simp [*]; done)), H', ⟨by have := HK1.out; have := HK2.out; first | omega | exact Nat.le_refl _⟩, by repeat (first | exact Drawn0.refl _ | apply Drawn0.step)⟩
                      case rest =>
                        clear HC12
                        try clear c1
                        try clear p1
                        try clear q1
                        try clear hx1
                        try clear c2
                        try clear p2
                        try clear c4
                        try clear c4b0
                        try clear c4b1
                        try clear c4b2
                        try clear c5
                        try clear c5b0
                        try clear c6
                        try clear c6b0
                        try clear p6
                        try clear c7
                        try clear c7b0
                        try clear c9
                        try clear c9b0
                        try clear c10
                        try clear c10b0
                        try clear p10
                        try clear q10
                        try clear hx10
                        try clear p11
                        try clear q11
                        try clear hx11
                        try clear c13
                        try clear c13b0
                        try clear c13b1
                        try clear hx109_0
                        try clear hx111_0
                        try clear p109
                        try clear p111
                        try clear p2
                        try clear q109
                        try clear q111
                        obtain ⟨kq, x8_11, rfl, HA, HJ11, ⟨mc11, rfl⟩⟩ := hcut
                        cases kq with
                        | zero => exact absurd HA.out (by simp [spec_Unordered.j2])
                        | succ kj11 =>
                          have H := HA.out
                          clear HA
                          simp only [spec_Unordered.j2] at H
                          by_cases c14 : 0 ≤ x9_2
                          · rw [if_pos c14] at H
                            have c14b0 : decide (0 ≤ x9_2) = true := decide_eq_true c14
                            clear c14
                            by_cases c15 : x9_2 < (l1.length : Int)
                            · rw [if_pos c15] at H
                              have c15b0 : decide (x9_2 < (l1.length : Int)) = true := decide_eq_true c15
                              clear c15
                              replace H := Option.bind_eq_some_iff.mp H
                              obtain ⟨t114, A160, H⟩ := H
                              replace H : (if 0 ≤ x7_1 then (if x7_1 < (l0.length : Int) then ((spec_classOf.f l2 (rd l0 x7_1)).bind fun t116 => (if t114 = t116 then (spec_Unordered.l1 kj11 l0 l1 l2 x7_1 (wrap64 (x8_11 - 1)) (wrap64 (x9_2 + 1))) else (spec_Unordered.l1 kj11 l0 l1 l2 x7_1 x8_11 (wrap64 (x9_2 + 1))))) else (none)) else (none)) = some r := H
                              have A16 := Aside0.mk A160
                              clear A160
                              by_cases c17 : 0 ≤ x7_1
                              · rw [if_pos c17] at H
                                have c17b0 : decide (0 ≤ x7_1) = true := decide_eq_true c17
                                clear c17
                                by_cases c18 : x7_1 < (l0.length : Int)
                                · rw [if_pos c18] at H
                                  have c18b0 : decide (x7_1 < (l0.length : Int)) = true := decide_eq_true c18
                                  clear c18
                                  replace H := Option.bind_eq_some_iff.mp H
                                  obtain ⟨t116, A190, H⟩ := H
                                  replace H : (if t114 = t116 then (spec_Unordered.l1 kj11 l0 l1 l2 x7_1 (wrap64 (x8_11 - 1)) (wrap64 (x9_2 + 1))) else (spec_Unordered.l1 kj11 l0 l1 l2 x7_1 x8_11 (wrap64 (x9_2 + 1)))) = some r := H
                                  have A19 := Aside0.mk A190
                                  clear A190
                                  by_cases c20 : t114 = t116
                                  · rw [if_pos c20] at H
                                    have c20b0 : (t114 == t116) = true := beq_iff_eq.mpr c20
                                    have c20b1 : (t114 != t116) = false := bne_eq_false_iff_eq.mpr c20
                                    clear c20
                                    have H' := Aside0.mk H
                                    clear H
                                    have p113 : 0 ≤ (x9_2 : Int) := of_decide_eq_true (by first | (with_reducible assumption) | assumption)
                                    have q113 : x9_2 < (l1.length : Int) := of_decide_eq_true (by first | (with_reducible assumption) | assumption)
                                    obtain ⟨ad113, e113, hx113_0⟩ := Kd.at_int HR1.out x9_2 p113 q113
                                    cases e113
                                    replace p113 := eq_true p113
                                    replace q113 := eq_true q113
                                    go_wp2_with (first | (go_at_call 40; (with_reducible refine (spec_classOf.calls _ _ l2 (rd l1 x9_2) t114 _ ?side1 ?side2 A16.out).mono ?_); (case side1 => repeat (first | exact HR2.out | (with_reducible refine Kd.C_alloc ?_ _) | (with_reducible refine Kd.C_drewN ?_ _) | (with_reducible refine Kd.C_drew ?_))); (case side2 => exact HC2.out); rintro e w' ⟨rfl, ⟨nd, rfl⟩⟩; (try first | exact ⟨rfl, _, World.drewN_drewN _ _ _⟩ | exact ⟨rfl, _, Eq.trans (World.drewN_drewN _ _ _) (congrArg (World.drewN _) (Nat.add_assoc _ _ _))⟩); have p115 : 0 ≤ (x7_1 : Int) := of_decide_eq_true (by first | (with_reducible assumption) | assumption); have q115 : x7_1 < (l0.length : Int) := of_decide_eq_true (by first | (with_reducible assumption) | assumption); obtain ⟨ad115, e115, hx115_0⟩ := Kd.at_int HR0.out x7_1 p115 q115; obtain rfl : ad109 = ad115 := (by injection e115); replace p115 := eq_true p115; replace q115 := eq_true q115) | (go_at_call 40; (with_reducible refine (spec_classOf.calls _ _ l2 (rd l0 x7_1) t116 _ ?side1 ?side2 A19.out).mono ?_); (case side1 => repeat (first | exact HR2.out | (with_reducible refine Kd.C_alloc ?_ _) | (with_reducible refine Kd.C_drewN ?_ _) | (with_reducible refine Kd.C_drew ?_))); (case side2 => exact HC2.out); rintro e w' ⟨rfl, ⟨nd, rfl⟩⟩; (try first | exact ⟨rfl, _, World.drewN_drewN _ _ _⟩ | exact ⟨rfl, _, Eq.trans (World.drewN_drewN _ _ _) (congrArg (World.drewN _) (Nat.add_assoc _ _ _))⟩)))
                                    repeat (go_quiet (first | (go_at_call 40; (with_reducible refine (spec_classOf.calls _ _ l2 (rd l1 x9_2) t114 _ ?side1 ?side2 A16.out).mono ?_); (case side1 => repeat (first | exact HR2.out | (with_reducible refine Kd.C_alloc ?_ _) | (with_reducible refine Kd.C_drewN ?_ _) | (with_reducible refine Kd.C_drew ?_))); (case side2 => exact HC2.out); rintro e w' ⟨rfl, ⟨nd, rfl⟩⟩; (try first | exact ⟨rfl, _, World.drewN_drewN _ _ _⟩ | exact ⟨rfl, _, Eq.trans (World.drewN_drewN _ _ _) (congrArg (World.drewN _) (Nat.add_assoc _ _ _))⟩); have p115 : 0 ≤ (x7_1 : Int) := of_decide_eq_true (by first | (with_reducible assumption) | assumption); have q115 : x7_1 < (l0.length : Int) := of_decide_eq_true (by first | (with_reducible assumption) | assumption); obtain ⟨ad115, e115, hx115_0⟩ := Kd.at_int HR0.out x7_1 p115 q115; obtain rfl : ad109 = ad115 := (by injection e115); replace p115 := eq_true p115; replace q115 := eq_true q115) | (go_at_call 40; (with_reducible refine (spec_classOf.calls _ _ l2 (rd l0 x7_1) t116 _ ?side1 ?side2 A19.out).mono ?_); (case side1 => repeat (first | exact HR2.out | (with_reducible refine Kd.C_alloc ?_ _) | (with_reducible refine Kd.C_drewN ?_ _) | (with_reducible refine Kd.C_drew ?_))); (case side2 => exact HC2.out); rintro e w' ⟨rfl, ⟨nd, rfl⟩⟩; (try first | exact ⟨rfl, _, World.drewN_drewN _ _ _⟩ | exact ⟨rfl, _, Eq.trans (World.drewN_drewN _ _ _) (congrArg (World.drewN _) (Nat.add_assoc _ _ _))⟩))); try go_wp2_with (first | (go_at_call 40; (with_reducible refine (spec_classOf.calls _ _ l2 (rd l1 x9_2) t114 _ ?side1 ?side2 A16.out).mono ?_); (case side1 => repeat (first | exact HR2.out | (with_reducible refine Kd.C_alloc ?_ _) | (with_reducible refine Kd.C_drewN ?_ _) | (with_reducible refine Kd.C_drew ?_))); (case side2 => exact HC2.out); rintro e w' ⟨rfl, ⟨nd, rfl⟩⟩; (try first | exact ⟨rfl, _, World.drewN_drewN _ _ _⟩ | exact ⟨rfl, _, Eq.trans (World.drewN_drewN _ _ _) (congrArg (World.drewN _) (Nat.add_assoc _ _ _))⟩); have p115 : 0 ≤ (x7_1 : Int) := of_decide_eq_true (by first | (with_reducible assumption) | assumption); have q115 : x7_1 < (l0.length : Int) := of_decide_eq_true (by first | (with_reducible assumption) | assumption); obtain ⟨ad115, e115, hx115_0⟩ := Kd.at_int HR0.out x7_1 p115 q115; obtain rfl : ad109 = ad115 := (by injection e115); replace p115 := eq_true p115; replace q115 := eq_true q115) | (go_at_call 40; (with_reducible refine (spec_classOf.calls _ _ l2 (rd l0 x7_1) t116 _ ?side1 ?side2 A19.out).mono ?_); (case side1 => repeat (first | exact HR2.out | (with_reducible refine Kd.C_alloc ?_ _) | (with_reducible refine Kd.C_drewN ?_ _) | (with_reducible refine Kd.C_drew ?_))); (case side2 => exact HC2.out); rintro e w' ⟨rfl, ⟨nd, rfl⟩⟩; (try first | exact ⟨rfl, _, World.drewN_drewN _ _ _⟩ | exact ⟨rfl, _, Eq.trans (World.drewN_drewN _ _ _) (congrArg (World.drewN _) (Nat.add_assoc _ _ _))⟩))))
                                    go_roundg kj11
                                    case measure => have := HK1.out; have := HK2.out; have := HJ11.out; omega
                                    case rel => exact ⟨(wrap64 (x8_11 - 1)), (wrap64 (x9_2 + 1)), (by first | rfl | (simp; done) | (simp [*]; done)), (by first | rfl | (simp; done) | (simp [*]; done)), H', ⟨by have := HK1.out; have := HK2.out; have := HJ11.out; omega⟩, by repeat (first | exact Drawn0.refl _ | apply Drawn0.step)⟩
                                  · rw [if_neg c20] at H
                                    have c20b0 : (t114 == t116) = false := beq_eq_false_iff_ne.mpr c20
                                    have c20b1 : (t114 != t116) = true := bne_iff_ne.mpr c20
                                    have H' := Aside0.mk H
                                    clear H
                                    have p113 : 0 ≤ (x9_2 : Int) := of_decide_eq_true (by first | (with_reducible assumption) | assumption)
                                    have q113 : x9_2 < (l1.length : Int) := of_decide_eq_true (by first | (with_reducible assumption) | assumption)
                                    obtain ⟨ad113, e113, hx113_0⟩ := Kd.at_int HR1.out x9_2 p113 q113
                                    cases e113
                                    replace p113 := eq_true p113
                                    replace q113 := eq_true q113
                                    go_wp2_with (first | (go_at_call 40; (with_reducible refine (spec_classOf.calls _ _ l2 (rd l1 x9_2) t114 _ ?side1 ?side2 A16.out).mono ?_); (case side1 => repeat (first | exact HR2.out | (with_reducible refine Kd.C_alloc ?_ _) | (with_reducible refine Kd.C_drewN ?_ _) | (with_reducible refine Kd.C_drew ?_))); (case side2 => exact HC2.out); rintro e w' ⟨rfl, ⟨nd, rfl⟩⟩; (try first | exact ⟨rfl, _, World.drewN_drewN _ _ _⟩ | exact ⟨rfl, _, Eq.trans (World.drewN_drewN _ _ _) (congrArg (World.drewN _) (Nat.add_assoc _ _ _))⟩); have p115 : 0 ≤ (x7_1 : Int) := of_decide_eq_true (by first | (with_reducible assumption) | assumption); have q115 : x7_1 < (l0.length : Int) := of_decide_eq_true (by first | (with_reducible assumption) | assumption); obtain ⟨ad115, e115, hx115_0⟩ := Kd.at_int HR0.out x7_1 p115 q115; obtain rfl : ad109 = ad115 := (by injection e115); replace p115 := eq_true p115; replace q115 := eq_true q115) | (go_at_call 40; (with_reducible refine (spec_classOf.calls _ _ l2 (rd l0 x7_1) t116 _ ?side1 ?side2 A19.out).mono ?_); (case side1 => repeat (first | exact HR2.out | (with_reducible refine Kd.C_alloc ?_ _) | (with_reducible refine Kd.C_drewN ?_ _) | (with_reducible refine Kd.C_drew ?_))); (case side2 => exact HC2.out); rintro e w' ⟨rfl, ⟨nd, rfl⟩⟩; (try first | exact ⟨rfl, _, World.drewN_drewN _ _ _⟩ | exact ⟨rfl, _, Eq.trans (World.drewN_drewN _ _ _) (congrArg (World.drewN _) (Nat.add_assoc _ _ _))⟩)))
                                    repeat (go_quiet (first | (go_at_call 40; (with_reducible refine (spec_classOf.calls _ _ l2 (rd l1 x9_2) t114 _ ?side1 ?side2 A16.out).mono ?_); (case side1 => repeat (first | exact HR2.out | (with_reducible refine Kd.C_alloc ?_ _) | (with_reducible refine Kd.C_drewN ?_ _) | (with_reducible refine Kd.C_drew ?_))); (case side2 => exact HC2.out); rintro e w' ⟨rfl, ⟨nd, rfl⟩⟩; (try first | exact ⟨rfl, _, World.drewN_drewN _ _ _⟩ | exact ⟨rfl, _, Eq.trans (World.drewN_drewN _ _ _) (congrArg (World.drewN _) (Nat.add_assoc _ _ _))⟩); have p115 : 0 ≤ (x7_1 : Int) := of_decide_eq_true (by first | (with_reducible assumption) | assumption); have q115 : x7_1 < (l0.length : Int) := of_decide_eq_true (by first | (with_reducible assumption) | assumption); obtain ⟨ad115, e115, hx115_0⟩ := Kd.at_int HR0.out x7_1 p115 q115; obtain rfl : ad109 = ad115 := (by injection e115); replace p115 := eq_true p115; replace q115 := eq_true q115) | (go_at_call 40; (with_reducible refine (spec_classOf.calls _ _ l2 (rd l0 x7_1) t116 _ ?side1 ?side2 A19.out).mono ?_); (case side1 => repeat (first | exact HR2.out | (with_reducible refine Kd.C_alloc ?_ _) | (with_reducible refine Kd.C_drewN ?_ _) | (with_reducible refine Kd.C_drew ?_))); (case side2 => exact HC2.out); rintro e w' ⟨rfl, ⟨nd, rfl⟩⟩; (try first | exact ⟨rfl, _, World.drewN_drewN _ _ _⟩ | exact ⟨rfl, _, Eq.trans (World.drewN_drewN _ _ _) (congrArg (World.drewN _) (Nat.add_assoc _ _ _))⟩))); try go_wp2_with (first | (go_at_call 40; (with_reducible refine (spec_classOf.calls _ _ l2 (rd l1 x9_2) t114 _ ?side1 ?side2 A16.out).mono ?_); (case side1 => repeat (first | exact HR2.out | (with_reducible refine Kd.C_alloc ?_ _) | (with_reducible refine Kd.C_drewN ?_ _) | (with_reducible refine Kd.C_drew ?_))); (case side2 => exact HC2.out); rintro e w' ⟨rfl, ⟨nd, rfl⟩⟩; (try first | exact ⟨rfl, _, World.drewN_drewN _ _ _⟩ | exact ⟨rfl, _, Eq.trans (World.drewN_drewN _ _ _) (congrArg (World.drewN _) (Nat.add_assoc _ _ _))⟩); have p115 : 0 ≤ (x7_1 : Int) := of_decide_eq_true (by first | (with_reducible assumption) | assumption); have q115 : x7_1 < (l0.length : Int) := of_decide_eq_true (by first | (with_reducible assumption) | assumption); obtain ⟨ad115, e115, hx115_0⟩ := Kd.at_int HR0.out x7_1 p115 q115; obtain rfl : ad109 = ad115 := (by injection e115); replace p115 := eq_true p115; replace q115 := eq_true q115) | (go_at_call 40; (with_reducible refine (spec_classOf.calls _ _ l2 (rd l0 x7_1) t116 _ ?side1 ?side2 A19.out).mono ?_); (case side1 => repeat (first | exact HR2.out | (with_reducible refine Kd.C_alloc ?_ _) | (with_reducible refine Kd.C_drewN ?_ _) | (with_reducible refine Kd.C_drew ?_))); (case side2 => exact HC2.out); rintro e w' ⟨rfl, ⟨nd, rfl⟩⟩; (try first | exact ⟨rfl, _, World.drewN_drewN _ _ _⟩ | exact ⟨rfl, _, Eq.trans (World.drewN_drewN _ _ _) (congrArg (World.drewN _) (Nat.add_assoc _ _ _))⟩))))
                                    go_roundg kj11
                                    case measure => have := HK1.out; have := HK2.out; have := HJ11.out; omega
                                    case rel => exact ⟨(x8_11), (wrap64 (x9_2 + 1)), (by first | rfl | (simp; done) | (simp [*]; done)), (by first | rfl | (simp; done) | (simp [*]; done)), H', ⟨by have := HK1.out; have := HK2.out; have := HJ11.out; omega⟩, by repeat (first | exact Drawn0.refl _ | apply Drawn0.step)⟩
                                · rw [if_neg c18] at H
                                  exact absurd H (by simp)
                              · rw [if_neg c17] at H
                                exact absurd H (by simp)
                            · rw [if_neg c15] at H
                              exact absurd H (by simp)
                          · rw [if_neg c14] at H
                            exact absurd H (by simp)
                    · rw [if_neg c10] at H
                      exact absurd H (by simp)
                  · rw [if_neg c9] at H
                    exact absurd H (by simp)
                · rw [if_neg c7] at H
                  exact absurd H (by simp)
              · rw [if_neg c6] at H
                have c6b0 : decide (x9_2 < (l0.length : Int)) = false := decide_eq_false c6
                clear c6
                by_cases c21 : x8_2 = 0
                · rw [if_pos c21] at H
                  have c21b0 : (x8_2 == 0) = true := beq_iff_eq.mpr c21
                  have c21b1 : (x8_2 != 0) = false := bne_eq_false_iff_eq.mpr c21
                  clear c21
                  have H' := Aside0.mk H
                  clear H
                  go_wp2
                  repeat (go_quiet (fail); try go_wp2)
                  go_roundg k2
                  case measure => have := HK1.out; have := HK2.out; omega
                  case rel => exact ⟨(wrap64 (x7_1 + 1)), (by first | rfl | (simp; done) | (simp [*]; done)), H', ⟨by have := HK1.out; have := HK2.out; omega⟩, by repeat (first | exact Drawn0.refl _ | apply Drawn0.step)⟩
                · rw [if_neg c21] at H
                  have c21b0 : (x8_2 == 0) = false := beq_eq_false_iff_ne.mpr c21
                  have c21b1 : (x8_2 != 0) = true := bne_iff_ne.mpr c21
                  obtain rfl := Option.some.inj H
                  go_wp2
                  repeat (go_quiet (fail); try go_wp2)
                  go_ret
                  exact ⟨by first | rfl | (simp; done) | (simp [*]; done), by repeat (first | exact Drawn0.refl _ | apply Drawn0.step)⟩
        · rw [if_neg c5] at H
          have c5b0 : decide (x7_1 < (l0.length : Int)) = false := decide_eq_false c5
          clear c5
          obtain rfl := Option.some.inj H
          go_wp2
          repeat (go_quiet (fail); try go_wp2)
          go_ret
          exact ⟨by first | rfl | (simp; done) | (simp [*]; done), by repeat (first | exact Drawn0.refl _ | apply Drawn0.step)⟩
  · rw [if_neg c4] at H
    have c4b0 : ((l0.length : Int) == (l1.length : Int)) = false := beq_eq_false_iff_ne.mpr c4
    have c4b1 : ((l0.length : Int) != (l1.length : Int)) = true := bne_iff_ne.mpr c4
    have c4b2 : (l0.length == l1.length) = false := by first | simpa using c4 | (simp at c4 ⊢; omega)
    obtain rfl := Option.some.inj H
    go_enter Tryz.func21, Tryz.ntmps21
    go_wp2
    repeat (go_quiet (fail); try go_wp2)
    go_ret
    exact ⟨by first | rfl | (simp; done) | (simp [*]; done), by repeat (first | exact Drawn0.refl _ | apply Drawn0.step)⟩


end Go.Proofs.YtnpiheoglilcbaaGreatDoor

/-! Lists in any order, in plain words: what the specification tells. Plain, no program. -/
namespace Go.Proofs.YtnpiheoglilcbaaGreatDoor
open Go.RowKit Go.Proofs.YtnpiheoglilcbaaGreatDoorW.PrintWords Go.Proofs.YtnpiheoglilcbaaGreatDoorW.PrintLast Go.Proofs.YtnpiheoglilcbaaGreatDoorW.PrintMore
set_option linter.unusedVariables false
set_option linter.unusedSimpArgs false

theorem w64u (x : Int) (h0 : 0 ≤ x) (h1 : x ≤ 9223372036854775807) : wrap64 x = x := by unfold wrap64; omega

/-- The class of a number. -/
def cls (same : List Int) (n : Int) : Int := if n < 0 then 0 else if n ≥ (same.length : Int) then 0 else rd same n

theorem classOf_f (same : List Int) (a : Int) : spec_classOf.f same a = some (cls same a) := by
  unfold spec_classOf.f cls
  by_cases h1 : a < 0
  · rw [if_pos h1, if_pos h1]
  · rw [if_neg h1, if_neg h1]
    by_cases h2 : a ≥ (same.length : Int)
    · rw [if_pos h2, if_pos h2]
    · rw [if_neg h2, if_neg h2, if_pos (by omega), if_pos (by omega)]

/-- As many of each class. -/
def Bag (x y : List Int) : Prop := ∀ c, c ∈ x → x.count c = y.count c

instance (x y : List Int) : Decidable (Bag x y) := by unfold Bag; infer_instance

/-- So many more of a class are among the first of one list than of another. -/
def lead (x y : List Int) (c : Int) (j : Nat) : Int := ((x.take j).count c : Int) - ((y.take j).count c : Int)

theorem count_take {l : List Int} {j : Nat} (h : j < l.length) (c : Int) : (l.take (j + 1)).count c = (l.take j).count c + if l[j] = c then 1 else 0 := by
  rw [List.take_succ_eq_append_getElem h, List.count_append, List.count_singleton]
  by_cases e : l[j] = c
  · simp [e]
  · simp [e]

theorem lead_bound {x y : List Int} {c : Int} {j : Nat} (hx : x.length ≤ 1000000) (hy : y.length ≤ 1000000) : -1000000 ≤ lead x y c j ∧ lead x y c j ≤ 1000000 := by
  have h1 : (x.take j).count c ≤ (x.take j).length := List.count_le_length
  have h2 : (y.take j).count c ≤ (y.take j).length := List.count_le_length
  simp only [List.length_take] at h1 h2
  unfold lead
  omega

theorem l1_ok (a b same : List Int) (hab : a.length = b.length) (hl : a.length ≤ 1000000) (i : Nat) (hi : i < a.length) (R : Bool) (hR : ∃ k, spec_Unordered.l0 k a b same ((i : Int) + 1) = some R) :
    ∀ (m j : Nat), j + m = a.length → ∃ k, spec_Unordered.l1 k a b same (i : Int) (lead (a.map (cls same)) (b.map (cls same)) (cls same a[i]) j) (j : Int) = some (if lead (a.map (cls same)) (b.map (cls same)) (cls same a[i]) a.length = 0 then R else false)
  | 0, j, hj => by
    obtain ⟨k, e⟩ := hR
    refine ⟨k + 1, ?_⟩
    have hj' : j = a.length := by omega
    subst hj'
    simp only [spec_Unordered.l1]
    rw [if_neg (by omega), w64u _ (by omega) (by omega), e]
    by_cases h : lead (a.map (cls same)) (b.map (cls same)) (cls same a[i]) a.length = 0
    · rw [if_pos h, if_pos h]
    · rw [if_neg h, if_neg h]
  | m + 1, j, hj => by
    obtain ⟨k, e⟩ := l1_ok a b same hab hl i hi R hR m (j + 1) (by omega)
    refine ⟨k + 2, ?_⟩
    have hja : j < a.length := by omega
    have hjb : j < b.length := by omega
    have ra : rd a (j : Int) = a[j] := by simp [rd, List.getD, hja]
    have rb : rd b (j : Int) = b[j] := by simp [rd, List.getD, hjb]
    have ri : rd a (i : Int) = a[i] := by simp [rd, List.getD, hi]
    have hb0 := lead_bound (x := a.map (cls same)) (y := b.map (cls same)) (c := cls same a[i]) (j := j) (by simpa using hl) (by simp; omega)
    have h1 := count_take (l := a.map (cls same)) (j := j) (by simpa using hja) (cls same a[i])
    have h2 := count_take (l := b.map (cls same)) (j := j) (by simpa using hjb) (cls same a[i])
    simp only [List.getElem_map] at h1 h2
    have hlead : lead (a.map (cls same)) (b.map (cls same)) (cls same a[i]) (j + 1) = lead (a.map (cls same)) (b.map (cls same)) (cls same a[i]) j + (if cls same a[j] = cls same a[i] then 1 else 0) - (if cls same b[j] = cls same a[i] then 1 else 0) := by
      unfold lead
      rw [h1, h2]
      split <;> split <;> omega
    obtain ⟨D, hD⟩ : ∃ D, lead (a.map (cls same)) (b.map (cls same)) (cls same a[i]) j = D := ⟨_, rfl⟩
    obtain ⟨r, hr⟩ : ∃ r, (if lead (a.map (cls same)) (b.map (cls same)) (cls same a[i]) a.length = 0 then R else false) = r := ⟨_, rfl⟩
    rw [hD] at hlead hb0 ⊢
    rw [hlead, hr] at e
    rw [hr]
    have p1 : (j : Int) < (a.length : Int) := by omega
    have p2 : (0 : Int) ≤ (j : Int) := by omega
    have p3 : (0 : Int) ≤ (i : Int) := by omega
    have p4 : (i : Int) < (a.length : Int) := by omega
    have p5 : (j : Int) < (b.length : Int) := by omega
    have hw1 : wrap64 ((j : Int) + 1) = ((j + 1 : Nat) : Int) := by unfold wrap64; omega
    have hw2 : wrap64 (D + 1) = D + 1 := by unfold wrap64; omega
    have hw3 : wrap64 (D + 1 - 1) = D + 1 - 1 := by unfold wrap64; omega
    have hw4 : wrap64 (D - 1) = D - 1 := by unfold wrap64; omega
    clear h1 h2 hlead hD hb0 hr hR
    rw [spec_Unordered.l1, if_pos p1, if_pos p2, ra, ri, classOf_f, classOf_f, Option.bind_some, if_pos p3, if_pos p4, Option.bind_some]
    by_cases c1 : cls same a[j] = cls same a[i]
    · rw [if_pos c1] at e ⊢
      rw [spec_Unordered.j2, if_pos p2, if_pos p5, rb, ri, classOf_f, classOf_f, Option.bind_some, if_pos p3, if_pos p4, Option.bind_some, hw1, hw2]
      by_cases c2 : cls same b[j] = cls same a[i]
      · rw [if_pos c2] at e ⊢
        rw [hw3]
        exact e
      · rw [if_neg c2] at e ⊢
        rw [Int.sub_zero] at e
        exact e
    · rw [if_neg c1] at e ⊢
      rw [spec_Unordered.j2, if_pos p2, if_pos p5, rb, ri, classOf_f, classOf_f, Option.bind_some, if_pos p3, if_pos p4, Option.bind_some, hw1]
      rw [Int.add_zero] at e
      by_cases c2 : cls same b[j] = cls same a[i]
      · rw [if_pos c2] at e ⊢
        rw [hw4]
        exact e
      · rw [if_neg c2] at e ⊢
        rw [Int.sub_zero] at e
        exact e

theorem l0_ok (a b same : List Int) (hab : a.length = b.length) (hl : a.length ≤ 1000000) :
    ∀ (m i : Nat), i + m = a.length → ∃ k, spec_Unordered.l0 k a b same (i : Int) = some (decide (∀ c, c ∈ (a.map (cls same)).drop i → (a.map (cls same)).count c = (b.map (cls same)).count c))
  | 0, i, hi => ⟨1, by
    simp only [spec_Unordered.l0]
    rw [if_neg (by omega), List.drop_eq_nil_of_le (by simp; omega)]
    simp⟩
  | m + 1, i, hi => by
    have hR := l0_ok a b same hab hl m (i + 1) (by omega)
    have hia : i < a.length := by omega
    obtain ⟨k, e⟩ := l1_ok a b same hab hl i hia _ (by simpa using hR) a.length 0 (by omega)
    refine ⟨k + 1, ?_⟩
    simp only [spec_Unordered.l0]
    rw [if_pos (by omega)]
    have h0 : lead (a.map (cls same)) (b.map (cls same)) (cls same a[i]) 0 = 0 := by simp [lead]
    rw [h0] at e
    have e' : spec_Unordered.l1 k a b same (i : Int) 0 0 = _ := e
    rw [e']
    have hd : (a.map (cls same)).drop i = cls same a[i] :: (a.map (cls same)).drop (i + 1) := by
      rw [List.drop_eq_getElem_cons (by simpa using hia)]
      simp
    have hL : lead (a.map (cls same)) (b.map (cls same)) (cls same a[i]) a.length = ((a.map (cls same)).count (cls same a[i]) : Int) - ((b.map (cls same)).count (cls same a[i]) : Int) := by
      unfold lead
      rw [List.take_of_length_le (by simp), List.take_of_length_le (by simp; omega)]
    rw [hL, hd]
    by_cases hc : (a.map (cls same)).count (cls same a[i]) = (b.map (cls same)).count (cls same a[i])
    · rw [if_pos (by omega)]
      congr 1
      apply decide_eq_decide.mpr
      constructor
      · intro h c hm
        rcases List.mem_cons.1 hm with rfl | hm
        · exact hc
        · exact h c hm
      · intro h c hm
        exact h c (List.mem_cons_of_mem _ hm)
    · rw [if_neg (by omega)]
      congr 1
      symm
      apply decide_eq_false
      intro h
      exact hc (h _ (List.mem_cons_self ..))

theorem spec_f (a b same : List Int) (hl : a.length ≤ 1000000) : ∃ k, spec_Unordered.f k a b same = some (decide (a.length = b.length ∧ Bag (a.map (cls same)) (b.map (cls same)))) := by
  unfold spec_Unordered.f
  by_cases hab : a.length = b.length
  · obtain ⟨k, e⟩ := l0_ok a b same hab hl a.length 0 (by omega)
    refine ⟨k, ?_⟩
    rw [if_pos (by omega)]
    have e' : spec_Unordered.l0 k a b same 0 = _ := e
    rw [e']
    congr 1
    apply decide_eq_decide.mpr
    rw [List.drop_zero]
    exact ⟨fun h => ⟨hab, h⟩, fun h => h.2⟩
  · refine ⟨0, ?_⟩
    rw [if_neg (by omega)]
    congr 1
    symm
    apply decide_eq_false
    exact fun h => hab h.1

end Go.Proofs.YtnpiheoglilcbaaGreatDoor

/-! The classes of numbers, and whether two numbers are alike: what the closures tell. -/
namespace Go.Proofs.YtnpiheoglilcbaaGreatDoor
open Go.RowKit Go.Deep Go.Proofs.YtnpiheoglilcbaaGreatDoorW.PrintWords
set_option linter.unusedVariables false
set_option linter.unusedSimpArgs false

theorem run_store_func (P : Program) (w : World) (a : Addr) (f : Fn) (x y : Array Value) (m : Mode) : (store a (.func f x y) m).run P w = stored P w a (.func f x y) m := run_store P w a _ m rfl

/-- The function value that tells a number's class. -/
abbrev clsV (sb : Nat) : Value := .func (.func 37) #[] #[.pointer (some ⟨sb, 0, none⟩)]
/-- The function value that tells whether two numbers are alike. -/
abbrev eqV (kb : Nat) : Value := .func (.func 39) #[] #[.pointer (some ⟨kb, 0, none⟩)]

/-- What the closures have captured. -/
def Caught (kb sb : Nat) (C : Option Addr) (cs : Nat) (same : List Int) (W : World) : Prop :=
  W.cell? ⟨kb, 0, none⟩ = some (clsV sb) ∧ W.cell? ⟨sb, 0, none⟩ = some (.slice C same.length cs) ∧ (Kd.int .i64).C W C same.length same

theorem Caught.below {kb sb : Nat} {C : Option Addr} {cs : Nat} {same : List Int} {W W1 : World} (h : Caught kb sb C cs same W) (hB : Below W.heap.size W W1) : Caught kb sb C cs same W1 :=
  ⟨(hB.cell (World.block_lt_of_cell? W _ h.1)).trans h.1, (hB.cell (World.block_lt_of_cell? W _ h.2.1)).trans h.2.1, Kd.C_below h.2.2 hB⟩

set_option maxRecDepth 100000 in
set_option maxHeartbeats 1000000 in
theorem cls_any (kb sb : Nat) (C : Option Addr) (cs : Nat) (same : List Int) (n : Int) (W : World) (h : Caught kb sb C cs same W) :
    Calls Tryz.prog 37 #[.int .i64 n, .pointer (some ⟨sb, 0, none⟩)] W fun e w' => e = .returned (.int .i64 (cls same n)) ∧ Drawn0 W w' := by
  obtain ⟨-, c1, hC⟩ := h
  by_cases h1 : n < 0
  · have e : cls same n = 0 := by unfold cls; rw [if_pos h1]
    rw [e]
    clear hC
    go_enter Tryz.func37, Tryz.ntmps37
    go_wp2
    go_ret
    exact ⟨rfl, by repeat (first | exact Drawn0.refl _ | apply Drawn0.step)⟩
  · have h1' : (0 : Int) ≤ n := by omega
    by_cases h2 : (same.length : Int) ≤ n
    · have e : cls same n = 0 := by unfold cls; rw [if_neg h1, if_pos (by omega)]
      rw [e]
      clear hC
      go_enter Tryz.func37, Tryz.ntmps37
      go_wp2
      go_ret
      exact ⟨rfl, by repeat (first | exact Drawn0.refl _ | apply Drawn0.step)⟩
    · have h2' : n < (same.length : Int) := by omega
      have e : cls same n = rd same n := by unfold cls; rw [if_neg h1, if_neg (by omega)]
      rw [e]
      obtain ⟨ad, rfl, hx⟩ := Kd.at_int hC n h1' h2'
      clear hC
      go_enter Tryz.func37, Tryz.ntmps37
      go_wp2
      go_ret
      exact ⟨rfl, by repeat (first | exact Drawn0.refl _ | apply Drawn0.step)⟩

set_option maxRecDepth 100000 in
set_option maxHeartbeats 1000000 in
theorem eq_any (kb sb : Nat) (C : Option Addr) (cs : Nat) (same : List Int) (x y : Int) (W : World) (h : Caught kb sb C cs same W) :
    Calls Tryz.prog 39 #[.int .i64 x, .int .i64 y, .pointer (some ⟨kb, 0, none⟩)] W fun e w' => e = .returned (.bool (cls same x == cls same y)) ∧ Drawn0 W w' := by
  have HC := Lib.hid h
  have hk := h.1
  clear h
  go_enter Tryz.func39, Tryz.ntmps39
  go_wp2_with (fail)
  go_region_held3 (fun W' => W'.cell? ⟨kb, 0, none⟩ = some (clsV sb)) (first | exact hk | (simp [go_sem, hk]; done))
    ((go_at_call 37; refine (cls_any kb sb C cs same _ _ ?_).mono ?_; exact HC.out.below (by repeat (first | exact Below.refl _ _ | apply below_drewN | apply Below.drew)); rintro e w' ⟨rfl, ⟨nn, rfl⟩⟩))
  all_goals go_wp2
  all_goals go_ret
  all_goals exact ⟨rfl, ⟨_, rfl⟩⟩

end Go.Proofs.YtnpiheoglilcbaaGreatDoor

/-! Matching what is alike, one by one, in plain words. Plain, no program. -/
namespace Go.Proofs.YtnpiheoglilcbaaGreatDoor
open Go.RowKit
set_option linter.unusedVariables false
set_option linter.unusedSimpArgs false

/-- How many of a class are matched. -/
def cntM : List Bool → List Int → Int → Nat
  | m :: M, y :: ys, c => (if m = true ∧ y = c then 1 else 0) + cntM M ys c
  | _, _, _ => 0

/-- How many are matched. -/
def cntT : List Bool → Nat
  | [] => 0
  | m :: M => (if m = true then 1 else 0) + cntT M

theorem cntM_start : ∀ (n : Nat) (ys : List Int) (c : Int), cntM (List.replicate n false) ys c = 0
  | 0, ys, c => by simp [cntM]
  | n + 1, [], c => by simp [cntM, List.replicate_succ]
  | n + 1, y :: ys, c => by simp [cntM, List.replicate_succ, cntM_start n ys c]

theorem cntT_start : ∀ (n : Nat), cntT (List.replicate n false) = 0
  | 0 => rfl
  | n + 1 => by simp [cntT, List.replicate_succ, cntT_start n]

theorem cntM_set : ∀ (M : List Bool) (ys : List Int) (j : Nat) (h : j < M.length) (h' : j < ys.length) (c : Int), M[j] = false → cntM (M.set j true) ys c = cntM M ys c + if ys[j] = c then 1 else 0
  | [], ys, j, h, h', c, e => by simp at h
  | m :: M, [], j, h, h', c, e => by simp at h'
  | m :: M, y :: ys, 0, h, h', c, e => by
    simp only [List.getElem_cons_zero] at e ⊢
    subst e
    simp [cntM]
    omega
  | m :: M, y :: ys, j + 1, h, h', c, e => by
    have ih := cntM_set M ys j (by simpa using h) (by simpa using h') c (by simpa using e)
    simp only [List.set_cons_succ, cntM, ih, List.getElem_cons_succ]
    omega

theorem cntT_set : ∀ (M : List Bool) (j : Nat) (h : j < M.length), M[j] = false → cntT (M.set j true) = cntT M + 1
  | [], j, h, e => by simp at h
  | m :: M, 0, h, e => by
    simp only [List.getElem_cons_zero] at e
    subst e
    simp [cntT]
    omega
  | m :: M, j + 1, h, e => by
    have ih := cntT_set M j (by simpa using h) (by simpa using e)
    simp only [List.set_cons_succ, cntT, ih]
    omega

theorem cntT_le : ∀ (M : List Bool), cntT M ≤ M.length
  | [] => by simp [cntT]
  | m :: M => by
    have := cntT_le M
    simp only [cntT, List.length_cons]
    split <;> omega

theorem cntT_all : ∀ (M : List Bool), cntT M = M.length → ∀ (j : Nat) (h : j < M.length), M[j] = true
  | [], e, j, h => by simp at h
  | m :: M, e, j, h => by
    have h1 := cntT_le M
    simp only [cntT, List.length_cons] at e
    have hm : m = true := by
      by_cases hm : m = true
      · exact hm
      · rw [if_neg hm] at e
        omega
    cases j with
    | zero => simpa using hm
    | succ j =>
      rw [if_pos hm] at e
      simpa using cntT_all M (by omega) j (by simpa using h)

theorem cntM_all : ∀ (M : List Bool) (ys : List Int) (c : Int), M.length = ys.length → (∀ (j : Nat) (h : j < M.length) (h' : j < ys.length), M[j] = true ∨ ys[j] ≠ c) → cntM M ys c = ys.count c
  | [], [], c, hl, h => by simp [cntM]
  | [], y :: ys, c, hl, h => by simp at hl
  | m :: M, [], c, hl, h => by simp at hl
  | m :: M, y :: ys, c, hl, h => by
    have ih := cntM_all M ys c (by simpa using hl) (fun j h1 h2 => by
      have h3 := h (j + 1) (by simp only [List.length_cons]; omega) (by simp only [List.length_cons]; omega)
      simp only [List.getElem_cons_succ] at h3
      exact h3)
    have h0 := h 0 (by simp) (by simp)
    simp only [List.getElem_cons_zero] at h0
    simp only [cntM, ih, List.count_cons]
    by_cases hy : y = c
    · rcases h0 with h0 | h0
      · simp [h0, hy]; omega
      · exact absurd hy h0
    · simp [hy]

/-- All were matched: as many of each class. -/
theorem bag_yes {x y : List Int} {n : Nat} (hp : x.take n = y.take n) {M : List Bool} (hl : x.length = y.length) (hM : M.length = (y.drop n).length) (hT : cntT M = (x.drop n).length) (hI : ∀ c, ((x.drop n).take (x.drop n).length).count c = cntM M (y.drop n) c) : Bag x y := by
  intro c _
  have hall := cntT_all M (by rw [hT, hM]; simp; omega)
  have e1 := cntM_all M (y.drop n) c hM (fun j h h' => .inl (hall j h))
  have e2 := hI c
  rw [List.take_length] at e2
  rw [← List.take_append_drop n x, ← List.take_append_drop n y, List.count_append, List.count_append, hp, e2, e1]

/-- One was not matched. -/
theorem bag_no {x y : List Int} {n : Nat} (hp : x.take n = y.take n) {M : List Bool} (hM : M.length = (y.drop n).length) {i : Nat} (hi : i < (x.drop n).length) (hI : ∀ c, ((x.drop n).take i).count c = cntM M (y.drop n) c)
    (hn : ∀ (j : Nat) (h : j < M.length) (h' : j < (y.drop n).length), M[j] = true ∨ (y.drop n)[j] ≠ (x.drop n)[i]) : ¬ Bag x y := by
  intro hb
  have e1 := cntM_all M (y.drop n) ((x.drop n)[i]) hM hn
  have e2 := hI ((x.drop n)[i])
  have e3 := count_take hi ((x.drop n)[i])
  rw [if_pos rfl] at e3
  have e4 : ((x.drop n).take (i + 1)).count ((x.drop n)[i]) ≤ (x.drop n).count ((x.drop n)[i]) := (List.take_sublist (i + 1) (x.drop n)).count_le _
  have hm : (x.drop n)[i] ∈ x := List.mem_of_mem_drop (List.getElem_mem hi)
  have e5 := hb _ hm
  obtain ⟨c, hc⟩ : ∃ c, (x.drop n)[i] = c := ⟨_, rfl⟩
  rw [hc] at e1 e2 e3 e4 e5
  have e6 : x.count c = (x.take n).count c + (x.drop n).count c := by rw [← List.count_append, List.take_append_drop]
  have e7 : y.count c = (y.take n).count c + (y.drop n).count c := by rw [← List.count_append, List.take_append_drop]
  rw [hp] at e6
  omega

/-- All are alike, place by place. -/
theorem bag_same {x y : List Int} {n : Nat} (hp : x.take n = y.take n) (h1 : n = x.length) (h2 : x.length = y.length) : Bag x y := by
  rw [List.take_of_length_le (by omega), List.take_of_length_le (by omega)] at hp
  intro c _
  rw [hp]

end Go.Proofs.YtnpiheoglilcbaaGreatDoor

/-! A new slice of bools that are all false, and the row of one. -/
namespace Go.Proofs.YtnpiheoglilcbaaGreatDoor
open Go.RowKit Go.Deep
set_option linter.unusedVariables false
set_option linter.unusedSimpArgs false

theorem infoBool : (Tryz.prog.info? 4).map (fun i => (i.zero, i.size, i.bytes)) = some (some (.bool false), 1, 1) := by kernel_rfl

/-- The cells of bools. -/
def bCells (M : List Bool) : Array Value := (M.map Value.bool).toArray

theorem made_bools (L : Nat) : madeCells (Value.bool false).cells (L * 1) = bCells (List.replicate L false) := by
  unfold bCells
  apply Array.toList_inj.1
  rw [Nat.mul_one, show (Value.bool false).cells = #[Value.bool false] from rfl, toList_madeCells_one]
  simp

theorem make_bools (L : Nat) (hL : L ≤ 1000000) (w : World) : (Instr.makeSlice 152 (.int .i64 (L : Nat)) (.int .i64 (L : Nat))).run Tryz.prog w = .ok (.slice (some ⟨w.heap.size, 0, none⟩) L L) (w.alloc (.cells (bCells (List.replicate L false)) 4)) := by
  obtain ⟨i0, hi, hz0, hz1, hz2⟩ := info_parts infoBool
  have h := run_makeSlice (P := Tryz.prog) (w := w) 152 4 i0 (.bool false) Tryz.underlying152 hi hz0 .i64 .i64 (L : Int) (L : Int) (by omega) (Int.le_refl _) (by rw [hz1]; simp; omega) (by rw [hz2]; omega) (by omega)
  rw [hz1, Int.toNat_natCast, made_bools] at h
  exact h

/-- Block k is a row of bools. -/
def BRow (k : Nat) (M : List Bool) (w : World) : Prop := w.heap[k]? = some (.cells (bCells M) 4 (0, 0))

theorem BRow.cell {k : Nat} {M : List Bool} {w : World} (h : BRow k M w) (j : Nat) (hj : j < M.length) : w.cell? ⟨k, j, none⟩ = some (.bool M[j]) := by
  rw [cell_heap h]
  simp [bCells, hj]

theorem BRow.free {k : Nat} {M : List Bool} {w : World} (h : BRow k M w) (j : Nat) : w.frozen? ⟨k, j, none⟩ = false := frozen_heap h j

theorem BRow.set {k : Nat} {M : List Bool} {w : World} (h : BRow k M w) (j : Nat) (b : Bool) : BRow k (M.set j b) (w.setCell ⟨k, j, none⟩ (.bool b)) := by
  unfold BRow at *
  rw [heap_set_same h]
  congr 2
  apply Array.toList_inj.1
  simp [bCells, List.map_set]

end Go.Proofs.YtnpiheoglilcbaaGreatDoor

/-! Lists in any order: the walk of the package's function. -/
namespace Go.Proofs.YtnpiheoglilcbaaGreatDoor
open Go.RowKit Go.Deep Go.Proofs.YtnpiheoglilcbaaGreatDoorW.PrintWords
set_option linter.unusedVariables false
set_option linter.unusedSimpArgs false

theorem row_cells {w : World} {A : Option Addr} {xs : List Int} (h : (Kd.int .i64).C w A xs.length xs) (h0 : 0 < xs.length) : ∃ ad, A = some ad ∧ ∀ k, k < xs.length → w.cell? (ad.add k) = some (.int .i64 (rd xs (k : Int))) := by
  obtain ⟨ad, rfl, _⟩ := Kd.at_int h 0 (by omega) (by omega)
  refine ⟨ad, rfl, fun k hk => ?_⟩
  obtain ⟨ad', e, hx⟩ := Kd.at_int h (k : Int) (by omega) (by omega)
  injection e with e
  subst e
  simpa using hx

set_option maxRecDepth 100000 in
set_option maxHeartbeats 1000000 in
theorem equal_none (kb : Nat) (A B : Option Addr) (ca cb : Nat) (W : World) :
    Calls Tryz.prog 38 #[.slice A 0 ca, .slice B 0 cb, eqV kb] W fun e w' => e = .returned (.bool true) ∧ Below W.heap.size W w' := by
  go_enter Tryz.func38, Tryz.ntmps38
  go_wp2
  refine wp_loop_rounds 1 ?_
  rw [rounds_succ]
  go_wp2
  go_ret
  exact ⟨rfl, by repeat (first | exact Below.refl _ _ | apply below_drewN | apply Below.drew)⟩

set_option maxRecDepth 100000 in
set_option maxHeartbeats 1000000 in
theorem equal_any_order (kb sb : Nat) (C : Option Addr) (cs : Nat) (same : List Int) (ad bd : Addr) (ca cb : Nat) (a b : List Int) (W : World) (hA : ∀ k, k < a.length → W.cell? (ad.add k) = some (.int .i64 (rd a (k : Int)))) (hca : a.length ≤ ca) (hB : ∀ k, k < b.length → W.cell? (bd.add k) = some (.int .i64 (rd b (k : Int)))) (hcb : b.length ≤ cb) (hl : a.length ≤ 1000000) (h0 : 0 < a.length) (hab : a.length = b.length) (h : Caught kb sb C cs same W) :
    Calls Tryz.prog 38 #[.slice (some ad) a.length ca, .slice (some bd) b.length cb, eqV kb] W fun e w' => e = .returned (.bool (decide (Bag (a.map (cls same)) (b.map (cls same))))) ∧ Below W.heap.size W w' := by
  have HC := Lib.hid h
  have HA := Lib.hid hA
  have HB := Lib.hid hB
  have HEQ := Lib.hid (fun x y W1 hB1 => eq_any kb sb C cs same x y W1 (HC.out.below hB1))
  have HEQ2 := Lib.hid (fun x y W1 hB1 => show Calls Tryz.prog 39 #[.int .i64 x, .int .i64 y, .pointer (some ⟨kb, 0, none⟩)] W1 fun e w' => e = .returned (.bool (cls same x == cls same y)) ∧ ∃ m, w' = W1.drewN m from (eq_any kb sb C cs same x y W1 (HC.out.below hB1)).mono (fun e w' h => ⟨h.1, h.2.out⟩))
  clear h hA hB
  have hln : (a.length : Int) = (b.length : Int) := by omega
  obtain ⟨x, hx⟩ : ∃ x, a.map (cls same) = x := ⟨_, rfl⟩
  obtain ⟨y, hy⟩ : ∃ y, b.map (cls same) = y := ⟨_, rfl⟩
  have hxl : x.length = a.length := by rw [← hx]; simp
  have hyl : y.length = b.length := by rw [← hy]; simp
  have hxa : ∀ k (h : k < a.length) (h' : k < x.length), x[k] = cls same (rd a (k : Int)) := fun k h h' => by
    subst hx
    simp [rd, List.getD, h]
  have hyb : ∀ k (h : k < b.length) (h' : k < y.length), y[k] = cls same (rd b (k : Int)) := fun k h h' => by
    subst hy
    simp [rd, List.getD, h]
  have HXA := Lib.hid hxa
  have HYB := Lib.hid hyb
  rw [hx, hy]
  clear hx hy hxa hyb
  obtain ⟨n, hn⟩ : ∃ n, a.length = n := ⟨_, rfl⟩
  have hnb : b.length = n := by omega
  rw [hn] at hxl hl h0 hca HA HXA ⊢
  rw [hnb] at hyl hcb HB HYB ⊢
  clear hln hab hn hnb
  obtain ⟨r, hr⟩ : ∃ r, decide (Bag x y) = r := ⟨_, rfl⟩
  rw [hr]
  go_enter Tryz.func38, Tryz.ntmps38
  go_wp2_with (fail)
  go_loopw [7] (fun i wr => ∃ k : Nat, i = .int .i64 k ∧ k ≤ n ∧ x.take k = y.take k ∧ ∃ m, wr = W.drewN m) (fun i _ => n - (intOf i).toNat)
  case atStart => exact ⟨0, rfl, Nat.zero_le _, rfl, 0, rfl⟩
  case round =>
    obtain ⟨k, rfl, hk, hp, m, rfl⟩ := hrel
    by_cases hkl : k < n
    case neg =>
      have hkn : k = n := by omega
      subst hkn
      have hbag : Bag x y := bag_same hp (by omega) (by omega)
      obtain rfl : true = r := by rw [← hr]; exact (decide_eq_true hbag).symm
      go_wp2_with (fail)
      go_ret
      exact ⟨rfl, below_drewN (Below.refl _ _) m⟩
    have hca1 := HA.out k hkl
    have hcb1 := HB.out k hkl
    go_wp2_with (fail)
    by_cases heq : cls same (rd a (k : Int)) = cls same (rd b (k : Int))
    case pos =>
      have heq' : (cls same (rd a (k : Int)) == cls same (rd b (k : Int))) = true := by simpa using heq
      have ht : x.take (k + 1) = y.take (k + 1) := by
        rw [List.take_succ_eq_append_getElem (by omega), List.take_succ_eq_append_getElem (by omega), hp, HXA.out k hkl (by omega), HYB.out k hkl (by omega), heq]
      go_region_held3 (fun W' => W'.cell? (ad.add k) = some (.int .i64 (rd a (k : Int))) ∧ W'.cell? (bd.add k) = some (.int .i64 (rd b (k : Int)))) (exact ⟨hca1, hcb1⟩) ((go_at_call 39; refine (HEQ.out _ _ _ ?_).mono ?_; (repeat (first | exact Below.refl _ _ | apply below_drewN | apply Below.drew)); rintro e w' ⟨rfl, ⟨nn, rfl⟩⟩))
      all_goals go_wp2_with (fail)
      all_goals exact ⟨⟨k + 1, by go_num, hkl, ht, _, rfl⟩, by simp [intOf]; omega⟩
    have heq' : (cls same (rd a (k : Int)) == cls same (rd b (k : Int))) = false := by simpa using heq
    have hkn : ¬ k = n := by omega
    have hkn' : ((k : Int) == (n : Int)) = false := by simp; omega
    have hk1 : (k : Int) ≤ (n : Int) := by omega
    have hk2 : (k : Int) ≤ (ca : Int) := by omega
    have hk3 : (k : Int) ≤ (cb : Int) := by omega
    have hk4 : ¬ ca = k := by omega
    have hk5 : ¬ cb = k := by omega
    go_region_held3 (fun W' => W'.cell? (ad.add k) = some (.int .i64 (rd a (k : Int))) ∧ W'.cell? (bd.add k) = some (.int .i64 (rd b (k : Int)))) (exact ⟨hca1, hcb1⟩) ((go_at_call 39; refine (HEQ.out _ _ _ ?_).mono ?_; (repeat (first | exact Below.refl _ _ | apply below_drewN | apply Below.drew)); rintro e w' ⟨rfl, ⟨nn, rfl⟩⟩))
    go_wp2_with (fail)
    obtain ⟨L, hL⟩ : ∃ L, n - k = L := ⟨_, rfl⟩
    have hmk := make_bools L (by omega)
    go_region
    go_wp2_with (fail)
    have hxd : (x.drop k).length = L := by simp; omega
    have hyd : (y.drop k).length = L := by simp; omega
    go_loopw [49] (fun iv wr => ∃ (i : Nat) (M : List Bool), iv = .int .i64 i ∧ i ≤ L ∧ M.length = L ∧ cntT M = i ∧ (∀ c, ((x.drop k).take i).count c = cntM M (y.drop k) c) ∧ BRow W.heap.size M wr ∧ Below W.heap.size W wr) (fun iv _ => L - (intOf iv).toNat)
    case atStart =>
      refine ⟨0, List.replicate L false, rfl, Nat.zero_le _, by simp, cntT_start L, fun c => by rw [cntM_start]; simp, ?_, ?_⟩
      · exact heap_alloc_new (W.drewN _) _
      · exact (below_drewN (Below.refl W.heap.size W) _).alloc (Nat.le_refl _) _
    case round =>
      obtain ⟨i, M, rfl, hi, hM, hT, hI, hR, hBl⟩ := hrel
      by_cases hil : i < L
      case neg =>
        have hiL : i = L := by omega
        have hbag : Bag x y := bag_yes (n := k) hp (hxl.trans hyl.symm) (hM.trans hyd.symm) (hT.trans (hiL.trans hxd.symm)) (fun c => by rw [hxd, ← hiL]; exact hI c)
        subst hiL
        obtain rfl : true = r := by rw [← hr]; exact (decide_eq_true hbag).symm
        go_wp2_with (fail)
        go_ret
        exact ⟨rfl, hBl⟩
      go_wp2_with (fail)
      have hsz := hBl.size
      have ei : ((k + i : Nat) : Int) = (k : Int) + (i : Int) := by omega
      have hai' : wr.cell? ((ad.add k).add i) = some (.int .i64 (rd a ((k : Int) + (i : Int)))) := by
        rw [Addr.add_add, ← ei]
        exact (hBl.cell (p := ad.add (k + i)) (World.block_lt_of_cell? W _ (HA.out (k + i) (by omega)))).trans (HA.out (k + i) (by omega))
      have hxi : (x.drop k)[i]'(by omega) = cls same (rd a ((k : Int) + (i : Int))) := by rw [List.getElem_drop, ← ei]; exact HXA.out (k + i) (by omega) (by omega)
      clear ei
      have HIN := Lib.hid hI
      have HRW := Lib.hid hR
      have HBL := Lib.hid hBl
      clear hI hR
      go_loopw [54, 10] (fun jv fv wr2 => ∃ j : Nat, jv = .int .i64 j ∧ fv = .bool false ∧ j ≤ L ∧ (∀ q (h1 : q < M.length) (h2 : q < (y.drop k).length), q < j → M[q] = true ∨ (y.drop k)[q] ≠ (x.drop k)[i]'(by omega)) ∧ ∃ m2, wr2 = wr.drewN m2) (fun jv _ _ => L - (intOf jv).toNat)
      case atStart => exact ⟨0, rfl, rfl, Nat.zero_le _, fun q h1 h2 h3 => by omega, 0, rfl⟩
      case round =>
        obtain ⟨j, rfl, rfl, hj, hno, m2, rfl⟩ := hrel
        by_cases hjl : j < L
        case neg =>
          have hbag : ¬ Bag x y := bag_no (n := k) hp (hM.trans hyd.symm) (i := i) (by omega) HIN.out (fun q h1 h2 => hno q h1 h2 (by omega))
          obtain rfl : false = r := by rw [← hr]; exact (decide_eq_false hbag).symm
          go_wp2_with (fail)
          go_ret
          exact ⟨rfl, below_drewN hBl m2⟩
        have ej : ((k + j : Nat) : Int) = (k : Int) + (j : Int) := by omega
        have hyj : (y.drop k)[j]'(by omega) = cls same (rd b ((k : Int) + (j : Int))) := by rw [List.getElem_drop, ← ej]; exact HYB.out (k + j) (by omega) (by omega)
        obtain ⟨wc, hwc⟩ : ∃ wc, wc = wr.drewN m2 := ⟨_, rfl⟩
        have HBC := Lib.hid (show Below W.heap.size W wc from by rw [hwc]; exact below_drewN HBL.out m2)
        have HRC := Lib.hid (show BRow W.heap.size M wc from by rw [hwc]; exact HRW.out)
        have hmj := HRC.out.cell j (by omega)
        have hfj := HRC.out.free j
        have haj : wc.cell? ((ad.add k).add i) = some (.int .i64 (rd a ((k : Int) + (i : Int)))) := by rw [hwc]; exact hai'
        have hbj : wc.cell? ((bd.add k).add j) = some (.int .i64 (rd b ((k : Int) + (j : Int)))) := by
          rw [Addr.add_add, ← ej]
          exact (HBC.out.cell (p := bd.add (k + j)) (World.block_lt_of_cell? W _ (HB.out (k + j) (by omega)))).trans (HB.out (k + j) (by omega))
        rw [← hwc]
        have HWC := Lib.hid hwc
        have hwn : ∀ q, ∃ z, wc.drewN q = wr.drewN z := fun q => ⟨m2 + q, by rw [HWC.out, World.drewN_drewN]⟩
        have HWN := Lib.hid hwn
        clear ej hwc hwn
        cases hmt : M[j]'(by omega)
        case true =>
          rw [hmt] at hmj
          go_wp2_with (fail)
          go_quiet (fail)
          go_wp2_with (fail)
          exact ⟨⟨j + 1, by go_num, rfl, hjl, fun q h1 h2 h3 => by
            by_cases hq : q = j
            · subst hq; exact .inl hmt
            · exact hno q h1 h2 (by omega), HWN.out _⟩, by simp [intOf]; omega⟩
        rw [hmt] at hmj
        by_cases heq2 : cls same (rd a ((k : Int) + (i : Int))) = cls same (rd b ((k : Int) + (j : Int)))
        case neg =>
          have heq3 : (cls same (rd a ((k : Int) + (i : Int))) == cls same (rd b ((k : Int) + (j : Int)))) = false := by simpa using heq2
          go_wp2_with (fail)
          go_quiet (first | (go_at_call 39; exact Calls.quiet_of (HEQ2.out _ _ _ (below_drewN HBC.out _))))
          go_wp2_with (fail)
          exact ⟨⟨j + 1, by go_num, rfl, hjl, fun q h1 h2 h3 => by
            by_cases hq : q = j
            · subst hq; right; rw [hyj, hxi]; exact fun e => heq2 e.symm
            · exact hno q h1 h2 (by omega), HWN.out _⟩, by simp [intOf]; omega⟩
        have heq3 : (cls same (rd a ((k : Int) + (i : Int))) == cls same (rd b ((k : Int) + (j : Int)))) = true := by simpa using heq2
        go_wp2_with (fail)
        go_quiet (first | (go_at_call 39; exact Calls.quiet_of (HEQ2.out _ _ _ (below_drewN HBC.out _))))
        go_wp2_with (fail)
        have hset := fun c => cntM_set M (y.drop k) j (by omega) (by omega) c hmt
        have hcnt := fun c => count_take (l := x.drop k) (j := i) (by omega) c
        exact ⟨⟨i + 1, M.set j true, by go_num, hil, by simpa using hM, by rw [cntT_set M j (by omega) hmt, hT], fun c => by rw [hcnt, hset, HIN.out, hxi, hyj, heq2], (show BRow W.heap.size M (wc.drewN _) from HRC.out).set j true, (below_drewN HBC.out _).setCell (p := ⟨W.heap.size, j, none⟩) (Nat.le_refl _) _⟩, by simp [intOf]; omega⟩

end Go.Proofs.YtnpiheoglilcbaaGreatDoor

/-! Lists in any order: what the thin package tells. -/
namespace Go.Proofs.YtnpiheoglilcbaaGreatDoor
open Go.RowKit Go.Deep Go.Proofs.YtnpiheoglilcbaaGreatDoorW.PrintWords
set_option linter.unusedVariables false
set_option linter.unusedSimpArgs false

attribute [local go_sem] run_store_func

theorem row_ints {w : World} {a : Option Addr} {len cap : Nat} {zs : List Int} (h : IsRow .i64 w a len cap zs) : ∃ nm : List Int, nm.length = len ∧ (Kd.int .i64).C w a nm.length nm ∧ nm.length ≤ cap := by
  rcases h with ⟨rfl, rfl, _, _⟩ | ⟨x, rfl, hl, hm, hz, hc, hw⟩
  · exact ⟨[], rfl, Kd.C_nil _ _, Nat.zero_le _⟩
  · refine ⟨zs.take len, by simp; omega, ⟨rfl, by simp; unfold maxLen at hm; omega, fun h0 => ⟨x, rfl, fun j p hj => ⟨[.int .i64 p], rfl, rfl, fun i u hu => ?_⟩⟩⟩, by simp; omega⟩
    cases i with
    | succ i => simp at hu
    | zero =>
      simp only [List.getElem?_cons_zero, Option.some.injEq] at hu
      subst hu
      rw [List.getElem?_take] at hj
      by_cases hjl : j < len
      · rw [if_pos hjl] at hj
        have hlt : j < zs.length := by omega
        have hcj := hc j hlt
        rw [List.getD_eq_getElem?_getD, hj] at hcj
        simpa [Kd.int, Kd.scalar] using hcj
      · rw [if_neg hjl] at hj
        cases hj

set_option maxRecDepth 100000 in
theorem equal_lens (kb : Nat) (A B : Option Addr) (n m ca cb : Nat) (W : World) (h : ¬ n = m) :
    Calls Tryz.prog 38 #[.slice A n ca, .slice B m cb, eqV kb] W fun e w' => e = .returned (.bool false) ∧ Below W.heap.size W w' := by
  have h1 : ((n : Int) == (m : Int)) = false := by simp; omega
  have h2 : ((n : Int) != (m : Int)) = true := by simp; omega
  go_enter Tryz.func38, Tryz.ntmps38
  go_wp2
  go_ret
  exact ⟨rfl, by repeat (first | exact Below.refl _ _ | apply below_drewN | apply Below.drew)⟩

theorem equal_all (kb sb : Nat) (C : Option Addr) (cs : Nat) (same : List Int) (A B : Option Addr) (ca cb : Nat) (a b : List Int) (W : World) (hA : (Kd.int .i64).C W A a.length a) (hca : a.length ≤ ca) (hB : (Kd.int .i64).C W B b.length b) (hcb : b.length ≤ cb) (hl : a.length ≤ 1000000) (h : Caught kb sb C cs same W) :
    Calls Tryz.prog 38 #[.slice A a.length ca, .slice B b.length cb, eqV kb] W fun e w' => e = .returned (.bool (decide (a.length = b.length ∧ Bag (a.map (cls same)) (b.map (cls same))))) ∧ Below W.heap.size W w' := by
  by_cases hab : a.length = b.length
  · by_cases h0 : 0 < a.length
    · obtain ⟨ad, rfl, hA'⟩ := row_cells hA h0
      obtain ⟨bd, rfl, hB'⟩ := row_cells hB (by omega)
      have e : decide (a.length = b.length ∧ Bag (a.map (cls same)) (b.map (cls same))) = decide (Bag (a.map (cls same)) (b.map (cls same))) := decide_eq_decide.mpr ⟨fun h => h.2, fun h => ⟨hab, h⟩⟩
      rw [e]
      exact equal_any_order kb sb C cs same ad bd ca cb a b W hA' hca hB' hcb hl h0 hab h
    · have ha : a = [] := List.eq_nil_of_length_eq_zero (by omega)
      have hb : b = [] := List.eq_nil_of_length_eq_zero (by omega)
      subst ha hb
      have e : decide (([] : List Int).length = ([] : List Int).length ∧ Bag (([] : List Int).map (cls same)) (([] : List Int).map (cls same))) = true := decide_eq_true ⟨rfl, fun c hc => by simp at hc⟩
      rw [e]
      exact equal_none kb A B ca cb W
  · rw [decide_eq_false (fun h => hab h.1)]
    exact equal_lens kb A B _ _ ca cb W hab

set_option maxRecDepth 100000 in
set_option maxHeartbeats 1000000 in
theorem unordered_any (A B C : Option Addr) (ca cb cs : Nat) (a b same : List Int) (w : World) (hA : (Kd.int .i64).C w A a.length a) (hca : a.length ≤ ca) (hB : (Kd.int .i64).C w B b.length b) (hcb : b.length ≤ cb) (hC : (Kd.int .i64).C w C same.length same) (hl : a.length ≤ 1000000) :
    Calls Tryz.prog 20 #[.slice A a.length ca, .slice B b.length cb, .slice C same.length cs] w fun e w' => e = .returned (.bool (decide (a.length = b.length ∧ Bag (a.map (cls same)) (b.map (cls same))))) ∧ Below w.heap.size w w' := by
  have hmf : ∀ (fn : Fn) (first cap : Array Value) (w : World), (Instr.makeFunc fn first cap).run Tryz.prog w = .ok (.func fn first cap) w := fun _ _ _ _ => rfl
  have hb1 : Below w.heap.size w ((w.alloc (.cells #[.slice C same.length cs] 25)).alloc (.cells #[clsV w.heap.size] 84)) := ((Below.refl _ w).alloc (Nat.le_refl _) _).alloc (by simp) _
  have hcau : Caught (w.heap.size + 1) w.heap.size C cs same ((w.alloc (.cells #[.slice C same.length cs] 25)).alloc (.cells #[clsV w.heap.size] 84)) :=
    ⟨(cell_heap (heap_alloc_at (by simp) _) 0).trans rfl, (cell_heap (heap_alloc_old (heap_alloc_new w _) _) 0).trans rfl, Kd.C_below hC hb1⟩
  have hE := equal_all (w.heap.size + 1) w.heap.size C cs same A B ca cb a b _ (Kd.C_below hA hb1) hca (Kd.C_below hB hb1) hcb hl hcau
  obtain ⟨r, hr⟩ : ∃ r, decide (a.length = b.length ∧ Bag (a.map (cls same)) (b.map (cls same))) = r := ⟨_, rfl⟩
  rw [hr] at hE ⊢
  have HE := Lib.hid hE
  have HB1 := Lib.hid hb1
  clear hA hB hC hb1 hcau hca hcb hE hr
  go_enter Tryz.func20, Tryz.ntmps20
  go_wp2_with (fail)
  refine HE.out.mono ?_
  rintro e w' ⟨rfl, hb⟩
  go_wp2
  go_ret
  exact ⟨rfl, HB1.out.trans (hb.mono (by simp; omega))⟩

end Go.Proofs.YtnpiheoglilcbaaGreatDoor

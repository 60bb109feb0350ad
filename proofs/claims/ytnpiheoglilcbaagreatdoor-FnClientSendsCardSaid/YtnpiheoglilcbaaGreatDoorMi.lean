/- Right values. No condition. -/
import Derived.Test.YtnpiheoglilcbaaGreatDoorMc
import Derived.Test.YtnpiheoglilcbaaGreatDoorMh
import Derived.Below
import Derived.Deep.Draws
import Derived.Deep.AppendLies
import Derived.Maps.AppendAt
import Derived.OwnWalk
import Derived.Laws.BytesArg
import Derived.Laws.MakeOwn
import Derived.Laws.OwnMore
import Derived.Deep.OwnRows
import Derived.Tactics
import Derived.Lib.ConvBytes
import Derived.Laws.Slices
import Derived.WalkKit
import Derived.KernelRfl
import Derived.RowKit3
import Derived.Deep.LoopGhost
import Derived.Deep.QuietTactic
import Derived.BigQuiet
import Derived.WideLaws
import Derived.Deep.DeepCutAuto
import Derived.Deep.CutBlock
import Derived.Deep.RegionHeld3
import Derived.Laws.Rows
import Derived.Lib.AppendStr
import Derived.ArgAppend
import Derived.Laws.IdiomCopy
import Derived.OrdersHeld
import Derived.Laws.BitsLemmas
import Derived.RowKit
import Derived.Test.YtnpiheoglilcbaaGreatDoorWWords
import Derived.Test.YtnpiheoglilcbaaGreatDoorWLast
import Derived.Test.YtnpiheoglilcbaaGreatDoorWTab
import Derived.Test.YtnpiheoglilcbaaGreatDoorWFour
import Derived.Test.YtnpiheoglilcbaaGreatDoorWQPut
import Derived.Test.YtnpiheoglilcbaaGreatDoorWApart
import Derived.Test.YtnpiheoglilcbaaGreatDoorWArr
import Derived.Test.YtnpiheoglilcbaaGreatDoorWZeros
import Derived.Test.YtnpiheoglilcbaaGreatDoorWFoot
import Derived.Test.YtnpiheoglilcbaaGreatDoorWKept
import Derived.Test.YtnpiheoglilcbaaGreatDoorWShare
import Derived.Test.YtnpiheoglilcbaaGreatDoorWN
import Derived.Test.YtnpiheoglilcbaaGreatDoorWFootNe
import Derived.Test.YtnpiheoglilcbaaGreatDoorWAt
import Derived.Test.YtnpiheoglilcbaaGreatDoorWEqStruct
import Derived.Test.YtnpiheoglilcbaaGreatDoorWRepsOne
import Derived.Test.YtnpiheoglilcbaaGreatDoorWInv
import Derived.Test.YtnpiheoglilcbaaGreatDoorWInvWords
import Derived.Test.YtnpiheoglilcbaaGreatDoorWGuard
import Derived.Test.YtnpiheoglilcbaaGreatDoorWNEv
import Derived.Test.YtnpiheoglilcbaaGreatDoorWMore
/-! Right values. Turned by a program (wip/tools/own.py) from what the kit's print says of these functions. -/
namespace Go.Proofs.YtnpiheoglilcbaaGreatDoor
open Go.RowKit Go.Proofs.YtnpiheoglilcbaaGreatDoorW.PrintWords Go.Proofs.YtnpiheoglilcbaaGreatDoorW.PrintLast Go.Proofs.YtnpiheoglilcbaaGreatDoorW.PrintMore
attribute [local go_sem] max2_int min2_int max_two min_two max_three min_three max_four min_four
set_option linter.unusedVariables false
set_option linter.unusedSimpArgs false

/-! ### laws_isRight -/
mutual
def laws_isRight.j0 : Nat → Bool → Int → Int → List Int → Int → Int → List Int → List (Val) → Option (Bool)
 | 0, _, _, _, _, _, _, _, _ => none
 | k + 1, x34, x108000, x108001, x108002, x108003, x108004, x108005, x108006 => if x34 = true then (some false) else (if x108000 < 12 then (laws_isRight.j1 k true x108000 x108001 x108002 x108003 x108004 x108005 x108006) else (laws_isRight.j1 k (x108000 == 16) x108000 x108001 x108002 x108003 x108004 x108005 x108006))
def laws_isRight.j1 : Nat → Bool → Int → Int → List Int → Int → Int → List Int → List (Val) → Option (Bool)
 | 0, _, _, _, _, _, _, _, _ => none
 | k + 1, x42, x108000, x108001, x108002, x108003, x108004, x108005, x108006 => if x42 = true then (some true) else (if x108000 = 13 then (if (x108006.length : Int) = 0 then (if x108003 = 0 then (laws_isRight.j2 k (x108004 == 0) x108000 x108001 x108002 x108003 x108004 x108005 x108006) else (laws_isRight.j2 k false x108000 x108001 x108002 x108003 x108004 x108005 x108006)) else (laws_isRight.j2 k false x108000 x108001 x108002 x108003 x108004 x108005 x108006)) else (laws_isRight.j2 k false x108000 x108001 x108002 x108003 x108004 x108005 x108006))
def laws_isRight.j2 : Nat → Bool → Int → Int → List Int → Int → Int → List Int → List (Val) → Option (Bool)
 | 0, _, _, _, _, _, _, _, _ => none
 | k + 1, x61, x108000, x108001, x108002, x108003, x108004, x108005, x108006 => if x61 = true then (some true) else (if x108000 = 12 then (if x108000 = 13 then ((laws_isType.f x108003).bind fun t109 => (laws_isRight.j3 k (!t109) x108000 x108001 x108002 x108003 x108004 x108005 x108006)) else (laws_isRight.j3 k false x108000 x108001 x108002 x108003 x108004 x108005 x108006)) else ((laws_isType.f x108004).bind fun t110 => (if t110 = true then (if x108000 = 13 then ((laws_isType.f x108003).bind fun t111 => (laws_isRight.j3 k (!t111) x108000 x108001 x108002 x108003 x108004 x108005 x108006)) else (laws_isRight.j3 k false x108000 x108001 x108002 x108003 x108004 x108005 x108006)) else (laws_isRight.j3 k true x108000 x108001 x108002 x108003 x108004 x108005 x108006))))
def laws_isRight.j3 : Nat → Bool → Int → Int → List Int → Int → Int → List Int → List (Val) → Option (Bool)
 | 0, _, _, _, _, _, _, _, _ => none
 | k + 1, x81, x108000, x108001, x108002, x108003, x108004, x108005, x108006 => if x81 = true then (some false) else (laws_isRight.l0 k 0 x108000 x108001 x108002 x108003 x108004 x108005 x108006)
def laws_isRight.l0 : Nat → Int → Int → Int → List Int → Int → Int → List Int → List (Val) → Option (Bool)
 | 0, _, _, _, _, _, _, _, _ => none
 | k + 1, x3, x108000, x108001, x108002, x108003, x108004, x108005, x108006 => if x3 < (x108006.length : Int) then (if x108000 = 13 then (laws_isRight.j5 k x3 x108004 ((Int.tmod x3 2) == 0) x108000 x108001 x108002 x108003 x108004 x108005 x108006) else (laws_isRight.j5 k x3 x108004 false x108000 x108001 x108002 x108003 x108004 x108005 x108006)) else (some true)
def laws_isRight.j5 : Nat → Int → Int → Bool → Int → Int → List Int → Int → Int → List Int → List (Val) → Option (Bool)
 | 0, _, _, _, _, _, _, _, _, _, _ => none
 | k + 1, x3, x4, x98, x108000, x108001, x108002, x108003, x108004, x108005, x108006 => if x98 = true then (laws_isRight.j6 k x3 x108003 x108000 x108001 x108002 x108003 x108004 x108005 x108006) else (laws_isRight.j6 k x3 x4 x108000 x108001 x108002 x108003 x108004 x108005 x108006)
def laws_isRight.j6 : Nat → Int → Int → Int → Int → List Int → Int → Int → List Int → List (Val) → Option (Bool)
 | 0, _, _, _, _, _, _, _, _, _ => none
 | k + 1, x3, x4, x108000, x108001, x108002, x108003, x108004, x108005, x108006 => if x108000 = 12 then (if 0 ≤ x3 then (if x3 < (x108006.length : Int) then (if ((rd_Val x108006 x3).f0) = ((rd_Val x108006 x3).f0) then ((laws_isRight.f k ((rd_Val x108006 x3).f0) ((rd_Val x108006 x3).f1) ((rd_Val x108006 x3).f2) ((rd_Val x108006 x3).f3) ((rd_Val x108006 x3).f4) ((rd_Val x108006 x3).f5) ((rd_Val x108006 x3).f6)).bind fun t115 => (if t115 = true then (laws_isRight.l0 k (wrap64 (x3 + 1)) x108000 x108001 x108002 x108003 x108004 x108005 x108006) else (some false))) else (some false)) else (none)) else (none)) else (if 0 ≤ x3 then (if x3 < (x108006.length : Int) then (if ((rd_Val x108006 x3).f0) = x4 then ((laws_isRight.f k ((rd_Val x108006 x3).f0) ((rd_Val x108006 x3).f1) ((rd_Val x108006 x3).f2) ((rd_Val x108006 x3).f3) ((rd_Val x108006 x3).f4) ((rd_Val x108006 x3).f5) ((rd_Val x108006 x3).f6)).bind fun t118 => (if t118 = true then (laws_isRight.l0 k (wrap64 (x3 + 1)) x108000 x108001 x108002 x108003 x108004 x108005 x108006) else (some false))) else (some false)) else (none)) else (none))
def laws_isRight.f : Nat → Int → Int → List Int → Int → Int → List Int → List (Val) → Option (Bool)
 | 0, _, _, _, _, _, _, _ => none
 | k + 1, a0_0, a0_1, l0_2, a0_3, a0_4, l0_5, l0_6 => (laws_isType.f a0_0).bind fun t108 => (if t108 = true then (if a0_0 = 12 then (if (l0_5.length : Int) = (l0_6.length : Int) then (if a0_0 = 13 then (laws_isRight.j0 k (((l0_6.length : Int) % 2) != 0) a0_0 a0_1 l0_2 a0_3 a0_4 l0_5 l0_6) else (laws_isRight.j0 k false a0_0 a0_1 l0_2 a0_3 a0_4 l0_5 l0_6)) else (laws_isRight.j0 k true a0_0 a0_1 l0_2 a0_3 a0_4 l0_5 l0_6)) else (if a0_0 = 13 then (laws_isRight.j0 k (((l0_6.length : Int) % 2) != 0) a0_0 a0_1 l0_2 a0_3 a0_4 l0_5 l0_6) else (laws_isRight.j0 k false a0_0 a0_1 l0_2 a0_3 a0_4 l0_5 l0_6))) else (laws_isRight.j0 k true a0_0 a0_1 l0_2 a0_3 a0_4 l0_5 l0_6))
end
theorem laws_isRight.mono_l : ∀ k, (∀ y0 y1 y2 y3 y4 y5 y6, LeO (laws_isRight.f k y0 y1 y2 y3 y4 y5 y6) (laws_isRight.f (k + 1) y0 y1 y2 y3 y4 y5 y6)) ∧ (∀ y0 y1 y2 y3 y4 y5 y6 y7, LeO (laws_isRight.j0 k y0 y1 y2 y3 y4 y5 y6 y7) (laws_isRight.j0 (k + 1) y0 y1 y2 y3 y4 y5 y6 y7)) ∧ (∀ y0 y1 y2 y3 y4 y5 y6 y7, LeO (laws_isRight.j1 k y0 y1 y2 y3 y4 y5 y6 y7) (laws_isRight.j1 (k + 1) y0 y1 y2 y3 y4 y5 y6 y7)) ∧ (∀ y0 y1 y2 y3 y4 y5 y6 y7, LeO (laws_isRight.j2 k y0 y1 y2 y3 y4 y5 y6 y7) (laws_isRight.j2 (k + 1) y0 y1 y2 y3 y4 y5 y6 y7)) ∧ (∀ y0 y1 y2 y3 y4 y5 y6 y7, LeO (laws_isRight.j3 k y0 y1 y2 y3 y4 y5 y6 y7) (laws_isRight.j3 (k + 1) y0 y1 y2 y3 y4 y5 y6 y7)) ∧ (∀ y0 y1 y2 y3 y4 y5 y6 y7, LeO (laws_isRight.l0 k y0 y1 y2 y3 y4 y5 y6 y7) (laws_isRight.l0 (k + 1) y0 y1 y2 y3 y4 y5 y6 y7)) ∧ (∀ y0 y1 y2 y3 y4 y5 y6 y7 y8 y9, LeO (laws_isRight.j5 k y0 y1 y2 y3 y4 y5 y6 y7 y8 y9) (laws_isRight.j5 (k + 1) y0 y1 y2 y3 y4 y5 y6 y7 y8 y9)) ∧ (∀ y0 y1 y2 y3 y4 y5 y6 y7 y8, LeO (laws_isRight.j6 k y0 y1 y2 y3 y4 y5 y6 y7 y8) (laws_isRight.j6 (k + 1) y0 y1 y2 y3 y4 y5 y6 y7 y8))
 | 0 => ⟨fun _ _ _ _ _ _ _ r h => by simp [laws_isRight.f] at h, fun _ _ _ _ _ _ _ _ r h => by simp [laws_isRight.j0] at h, fun _ _ _ _ _ _ _ _ r h => by simp [laws_isRight.j1] at h, fun _ _ _ _ _ _ _ _ r h => by simp [laws_isRight.j2] at h, fun _ _ _ _ _ _ _ _ r h => by simp [laws_isRight.j3] at h, fun _ _ _ _ _ _ _ _ r h => by simp [laws_isRight.l0] at h, fun _ _ _ _ _ _ _ _ _ _ r h => by simp [laws_isRight.j5] at h, fun _ _ _ _ _ _ _ _ _ r h => by simp [laws_isRight.j6] at h⟩
 | k + 1 => by
  obtain ⟨ih0, ih1, ih2, ih3, ih4, ih5, ih6, ih7⟩ := laws_isRight.mono_l k
  refine ⟨?_, ?_, ?_, ?_, ?_, ?_, ?_, ?_⟩
  ·intro y0 y1 y2 y3 y4 y5 y6
   unfold laws_isRight.f
   repeat' first
   | (with_reducible exact ih0 _ _ _ _ _ _ _)
   | (with_reducible exact ih1 _ _ _ _ _ _ _ _)
   | (with_reducible exact ih2 _ _ _ _ _ _ _ _)
   | (with_reducible exact ih3 _ _ _ _ _ _ _ _)
   | (with_reducible exact ih4 _ _ _ _ _ _ _ _)
   | (with_reducible exact ih5 _ _ _ _ _ _ _ _)
   | (with_reducible exact ih6 _ _ _ _ _ _ _ _ _ _)
   | (with_reducible exact ih7 _ _ _ _ _ _ _ _ _)
   | (with_reducible exact LeO.refl _)
   | (with_reducible exact LeO.none _)
   | (with_reducible refine LeO.ite ?_ ?_)
   | (with_reducible refine LeO.bind ?_ (fun _ => ?_))
   | exact ih0 _ _ _ _ _ _ _
   | exact ih1 _ _ _ _ _ _ _ _
   | exact ih2 _ _ _ _ _ _ _ _
   | exact ih3 _ _ _ _ _ _ _ _
   | exact ih4 _ _ _ _ _ _ _ _
   | exact ih5 _ _ _ _ _ _ _ _
   | exact ih6 _ _ _ _ _ _ _ _ _ _
   | exact ih7 _ _ _ _ _ _ _ _ _
   | exact LeO.none _
   | refine LeO.ite ?_ ?_
   | refine LeO.bind ?_ (fun _ => ?_)
  ·intro y0 y1 y2 y3 y4 y5 y6 y7
   unfold laws_isRight.j0
   repeat' first
   | (with_reducible exact ih0 _ _ _ _ _ _ _)
   | (with_reducible exact ih1 _ _ _ _ _ _ _ _)
   | (with_reducible exact ih2 _ _ _ _ _ _ _ _)
   | (with_reducible exact ih3 _ _ _ _ _ _ _ _)
   | (with_reducible exact ih4 _ _ _ _ _ _ _ _)
   | (with_reducible exact ih5 _ _ _ _ _ _ _ _)
   | (with_reducible exact ih6 _ _ _ _ _ _ _ _ _ _)
   | (with_reducible exact ih7 _ _ _ _ _ _ _ _ _)
   | (with_reducible exact LeO.refl _)
   | (with_reducible exact LeO.none _)
   | (with_reducible refine LeO.ite ?_ ?_)
   | (with_reducible refine LeO.bind ?_ (fun _ => ?_))
   | exact ih0 _ _ _ _ _ _ _
   | exact ih1 _ _ _ _ _ _ _ _
   | exact ih2 _ _ _ _ _ _ _ _
   | exact ih3 _ _ _ _ _ _ _ _
   | exact ih4 _ _ _ _ _ _ _ _
   | exact ih5 _ _ _ _ _ _ _ _
   | exact ih6 _ _ _ _ _ _ _ _ _ _
   | exact ih7 _ _ _ _ _ _ _ _ _
   | exact LeO.none _
   | refine LeO.ite ?_ ?_
   | refine LeO.bind ?_ (fun _ => ?_)
  ·intro y0 y1 y2 y3 y4 y5 y6 y7
   unfold laws_isRight.j1
   repeat' first
   | (with_reducible exact ih0 _ _ _ _ _ _ _)
   | (with_reducible exact ih1 _ _ _ _ _ _ _ _)
   | (with_reducible exact ih2 _ _ _ _ _ _ _ _)
   | (with_reducible exact ih3 _ _ _ _ _ _ _ _)
   | (with_reducible exact ih4 _ _ _ _ _ _ _ _)
   | (with_reducible exact ih5 _ _ _ _ _ _ _ _)
   | (with_reducible exact ih6 _ _ _ _ _ _ _ _ _ _)
   | (with_reducible exact ih7 _ _ _ _ _ _ _ _ _)
   | (with_reducible exact LeO.refl _)
   | (with_reducible exact LeO.none _)
   | (with_reducible refine LeO.ite ?_ ?_)
   | (with_reducible refine LeO.bind ?_ (fun _ => ?_))
   | exact ih0 _ _ _ _ _ _ _
   | exact ih1 _ _ _ _ _ _ _ _
   | exact ih2 _ _ _ _ _ _ _ _
   | exact ih3 _ _ _ _ _ _ _ _
   | exact ih4 _ _ _ _ _ _ _ _
   | exact ih5 _ _ _ _ _ _ _ _
   | exact ih6 _ _ _ _ _ _ _ _ _ _
   | exact ih7 _ _ _ _ _ _ _ _ _
   | exact LeO.none _
   | refine LeO.ite ?_ ?_
   | refine LeO.bind ?_ (fun _ => ?_)
  ·intro y0 y1 y2 y3 y4 y5 y6 y7
   unfold laws_isRight.j2
   repeat' first
   | (with_reducible exact ih0 _ _ _ _ _ _ _)
   | (with_reducible exact ih1 _ _ _ _ _ _ _ _)
   | (with_reducible exact ih2 _ _ _ _ _ _ _ _)
   | (with_reducible exact ih3 _ _ _ _ _ _ _ _)
   | (with_reducible exact ih4 _ _ _ _ _ _ _ _)
   | (with_reducible exact ih5 _ _ _ _ _ _ _ _)
   | (with_reducible exact ih6 _ _ _ _ _ _ _ _ _ _)
   | (with_reducible exact ih7 _ _ _ _ _ _ _ _ _)
   | (with_reducible exact LeO.refl _)
   | (with_reducible exact LeO.none _)
   | (with_reducible refine LeO.ite ?_ ?_)
   | (with_reducible refine LeO.bind ?_ (fun _ => ?_))
   | exact ih0 _ _ _ _ _ _ _
   | exact ih1 _ _ _ _ _ _ _ _
   | exact ih2 _ _ _ _ _ _ _ _
   | exact ih3 _ _ _ _ _ _ _ _
   | exact ih4 _ _ _ _ _ _ _ _
   | exact ih5 _ _ _ _ _ _ _ _
   | exact ih6 _ _ _ _ _ _ _ _ _ _
   | exact ih7 _ _ _ _ _ _ _ _ _
   | exact LeO.none _
   | refine LeO.ite ?_ ?_
   | refine LeO.bind ?_ (fun _ => ?_)
  ·intro y0 y1 y2 y3 y4 y5 y6 y7
   unfold laws_isRight.j3
   repeat' first
   | (with_reducible exact ih0 _ _ _ _ _ _ _)
   | (with_reducible exact ih1 _ _ _ _ _ _ _ _)
   | (with_reducible exact ih2 _ _ _ _ _ _ _ _)
   | (with_reducible exact ih3 _ _ _ _ _ _ _ _)
   | (with_reducible exact ih4 _ _ _ _ _ _ _ _)
   | (with_reducible exact ih5 _ _ _ _ _ _ _ _)
   | (with_reducible exact ih6 _ _ _ _ _ _ _ _ _ _)
   | (with_reducible exact ih7 _ _ _ _ _ _ _ _ _)
   | (with_reducible exact LeO.refl _)
   | (with_reducible exact LeO.none _)
   | (with_reducible refine LeO.ite ?_ ?_)
   | (with_reducible refine LeO.bind ?_ (fun _ => ?_))
   | exact ih0 _ _ _ _ _ _ _
   | exact ih1 _ _ _ _ _ _ _ _
   | exact ih2 _ _ _ _ _ _ _ _
   | exact ih3 _ _ _ _ _ _ _ _
   | exact ih4 _ _ _ _ _ _ _ _
   | exact ih5 _ _ _ _ _ _ _ _
   | exact ih6 _ _ _ _ _ _ _ _ _ _
   | exact ih7 _ _ _ _ _ _ _ _ _
   | exact LeO.none _
   | refine LeO.ite ?_ ?_
   | refine LeO.bind ?_ (fun _ => ?_)
  ·intro y0 y1 y2 y3 y4 y5 y6 y7
   unfold laws_isRight.l0
   repeat' first
   | (with_reducible exact ih0 _ _ _ _ _ _ _)
   | (with_reducible exact ih1 _ _ _ _ _ _ _ _)
   | (with_reducible exact ih2 _ _ _ _ _ _ _ _)
   | (with_reducible exact ih3 _ _ _ _ _ _ _ _)
   | (with_reducible exact ih4 _ _ _ _ _ _ _ _)
   | (with_reducible exact ih5 _ _ _ _ _ _ _ _)
   | (with_reducible exact ih6 _ _ _ _ _ _ _ _ _ _)
   | (with_reducible exact ih7 _ _ _ _ _ _ _ _ _)
   | (with_reducible exact LeO.refl _)
   | (with_reducible exact LeO.none _)
   | (with_reducible refine LeO.ite ?_ ?_)
   | (with_reducible refine LeO.bind ?_ (fun _ => ?_))
   | exact ih0 _ _ _ _ _ _ _
   | exact ih1 _ _ _ _ _ _ _ _
   | exact ih2 _ _ _ _ _ _ _ _
   | exact ih3 _ _ _ _ _ _ _ _
   | exact ih4 _ _ _ _ _ _ _ _
   | exact ih5 _ _ _ _ _ _ _ _
   | exact ih6 _ _ _ _ _ _ _ _ _ _
   | exact ih7 _ _ _ _ _ _ _ _ _
   | exact LeO.none _
   | refine LeO.ite ?_ ?_
   | refine LeO.bind ?_ (fun _ => ?_)
  ·intro y0 y1 y2 y3 y4 y5 y6 y7 y8 y9
   unfold laws_isRight.j5
   repeat' first
   | (with_reducible exact ih0 _ _ _ _ _ _ _)
   | (with_reducible exact ih1 _ _ _ _ _ _ _ _)
   | (with_reducible exact ih2 _ _ _ _ _ _ _ _)
   | (with_reducible exact ih3 _ _ _ _ _ _ _ _)
   | (with_reducible exact ih4 _ _ _ _ _ _ _ _)
   | (with_reducible exact ih5 _ _ _ _ _ _ _ _)
   | (with_reducible exact ih6 _ _ _ _ _ _ _ _ _ _)
   | (with_reducible exact ih7 _ _ _ _ _ _ _ _ _)
   | (with_reducible exact LeO.refl _)
   | (with_reducible exact LeO.none _)
   | (with_reducible refine LeO.ite ?_ ?_)
   | (with_reducible refine LeO.bind ?_ (fun _ => ?_))
   | exact ih0 _ _ _ _ _ _ _
   | exact ih1 _ _ _ _ _ _ _ _
   | exact ih2 _ _ _ _ _ _ _ _
   | exact ih3 _ _ _ _ _ _ _ _
   | exact ih4 _ _ _ _ _ _ _ _
   | exact ih5 _ _ _ _ _ _ _ _
   | exact ih6 _ _ _ _ _ _ _ _ _ _
   | exact ih7 _ _ _ _ _ _ _ _ _
   | exact LeO.none _
   | refine LeO.ite ?_ ?_
   | refine LeO.bind ?_ (fun _ => ?_)
  ·intro y0 y1 y2 y3 y4 y5 y6 y7 y8
   unfold laws_isRight.j6
   repeat' first
   | (with_reducible exact ih0 _ _ _ _ _ _ _)
   | (with_reducible exact ih1 _ _ _ _ _ _ _ _)
   | (with_reducible exact ih2 _ _ _ _ _ _ _ _)
   | (with_reducible exact ih3 _ _ _ _ _ _ _ _)
   | (with_reducible exact ih4 _ _ _ _ _ _ _ _)
   | (with_reducible exact ih5 _ _ _ _ _ _ _ _)
   | (with_reducible exact ih6 _ _ _ _ _ _ _ _ _ _)
   | (with_reducible exact ih7 _ _ _ _ _ _ _ _ _)
   | (with_reducible exact LeO.refl _)
   | (with_reducible exact LeO.none _)
   | (with_reducible refine LeO.ite ?_ ?_)
   | (with_reducible refine LeO.bind ?_ (fun _ => ?_))
   | exact ih0 _ _ _ _ _ _ _
   | exact ih1 _ _ _ _ _ _ _ _
   | exact ih2 _ _ _ _ _ _ _ _
   | exact ih3 _ _ _ _ _ _ _ _
   | exact ih4 _ _ _ _ _ _ _ _
   | exact ih5 _ _ _ _ _ _ _ _
   | exact ih6 _ _ _ _ _ _ _ _ _ _
   | exact ih7 _ _ _ _ _ _ _ _ _
   | exact LeO.none _
   | refine LeO.ite ?_ ?_
   | refine LeO.bind ?_ (fun _ => ?_)
theorem laws_isRight.mono : ∀ a0 a1 a2 a3 a4 a5 a6 k, LeO (laws_isRight.f k a0 a1 a2 a3 a4 a5 a6) (laws_isRight.f (k + 1) a0 a1 a2 a3 a4 a5 a6) := by
 intro a0 a1 a2 a3 a4 a5 a6 k
 obtain ⟨ih0, ih1, ih2, ih3, ih4, ih5, ih6, ih7⟩ := laws_isRight.mono_l k
 exact ih0 a0 a1 a2 a3 a4 a5 a6
set_option maxHeartbeats 8000000 in
set_option maxRecDepth 100000 in
theorem laws_isRight.calls (k : Nat) : ∀ (a0_0 : Int) (a0_1 : Int) (A0_2 : Option Addr) (c0_2 : Nat) (l0_2 : List Int) (a0_3 : Int) (a0_4 : Int) (A0_5 : Option Addr) (c0_5 : Nat) (l0_5 : List Int) (A0_6 : Option Addr) (c0_6 : Nat) (l0_6 : List (Val)) (r : Bool) (w : World) (hr0_2 : Kd.C (Kd.int .u8) w A0_2 l0_2.length l0_2) (hc0_2 : l0_2.length ≤ c0_2) (hr0_5 : Kd.C (Kd.int .i64) w A0_5 l0_5.length l0_5) (hc0_5 : l0_5.length ≤ c0_5) (hr0_6 : Kd.C kVal w A0_6 l0_6.length l0_6) (hc0_6 : l0_6.length ≤ c0_6) (h : laws_isRight.f k a0_0 a0_1 l0_2 a0_3 a0_4 l0_5 l0_6 = some r),
  Calls Tryz.prog 10 #[.agg #[.int .i64 a0_0, .int .i64 a0_1, .slice A0_2 l0_2.length c0_2, .int .i64 a0_3, .int .i64 a0_4, .slice A0_5 l0_5.length c0_5, .slice A0_6 l0_6.length c0_6]] w fun e w' => e = .returned (.bool r) ∧ Below w.heap.size w w' := by
 induction k using Nat.strongRecOn with
 | _ k ih =>
 intro a0_0 a0_1 A0_2 c0_2 l0_2 a0_3 a0_4 A0_5 c0_5 l0_5 A0_6 c0_6 l0_6 r w hr0_2 hc0_2 hr0_5 hc0_5 hr0_6 hc0_6 h
 cases k with
 | zero => exact absurd h (by simp [laws_isRight.f])
 | succ k =>
 simp only [laws_isRight.f] at h
 have hu28 := Tryz.underlying28
 have HR0_2 := Aside0.mk hr0_2
 have HC0_2 := Aside0.mk hc0_2
 clear hr0_2 hc0_2
 have HR0_5 := Aside0.mk hr0_5
 have HC0_5 := Aside0.mk hc0_5
 clear hr0_5 hc0_5
 have HR0_6 := Aside0.mk hr0_6
 have HC0_6 := Aside0.mk hc0_6
 clear hr0_6 hc0_6
 have HB := Aside0.mk (Below.refl w.heap.size w)
 have H : ((laws_isType.f a0_0).bind fun t108 => (if t108 = true then (if a0_0 = 12 then (if (l0_5.length : Int) = (l0_6.length : Int) then (if a0_0 = 13 then (laws_isRight.j0 k (((l0_6.length : Int) % 2) != 0) a0_0 a0_1 l0_2 a0_3 a0_4 l0_5 l0_6) else (laws_isRight.j0 k false a0_0 a0_1 l0_2 a0_3 a0_4 l0_5 l0_6)) else (laws_isRight.j0 k true a0_0 a0_1 l0_2 a0_3 a0_4 l0_5 l0_6)) else (if a0_0 = 13 then (laws_isRight.j0 k (((l0_6.length : Int) % 2) != 0) a0_0 a0_1 l0_2 a0_3 a0_4 l0_5 l0_6) else (laws_isRight.j0 k false a0_0 a0_1 l0_2 a0_3 a0_4 l0_5 l0_6))) else (laws_isRight.j0 k true a0_0 a0_1 l0_2 a0_3 a0_4 l0_5 l0_6))) = some r := h
 clear h
 have HC2 := Aside0.mk H
 clear H
 go_enter Tryz.func10, Tryz.ntmps10
 go_upto_region 1 with (first | ((with_reducible refine gate_dst (N := 1) rfl ?_); (try (refine gate_guard (by rfl) ?_; dsimp only)); refine box_event ?hg (N := 1) ?hd (cs := #[.int .i64 a0_0, .int .i64 a0_1, .slice A0_2 l0_2.length c0_2, .int .i64 a0_3, .int .i64 a0_4, .slice A0_5 l0_5.length c0_5, .slice A0_6 l0_6.length c0_6]) (t := 28) ?hr ?_; (case hd => rfl); (case hg => rfl); (case hr => first | (go_simp; done) | (go_simp; rfl)); intro gb107 hg w3 hbox hb; have n0_ := Aside0.mk (below_step (by repeat (first | (with_reducible first | exact HB.out | apply below_alloc | apply pw_below_drewN | apply below_drew1) | exact HB.out)) hb); have n1_ := Aside0.mk (hbox); have n2_ := Aside0.mk ((by rw [hg]; exact (below_size (by repeat (first | (with_reducible first | exact HB.out | apply below_alloc | apply pw_below_drewN | apply below_drew1) | exact HB.out))) : w.heap.size ≤ gb107)); have n3_ := Aside0.mk ((by rw [hg]; exact (below_size (by repeat (first | (with_reducible first | exact HB.out | apply below_alloc | apply pw_below_drewN | apply below_drew1) | exact HB.out))) : w.heap.size ≤ gb107)); clear HB; have HB := n0_; have BK107 := n1_; have GW107 := n2_; have GE107 := n3_; clear n0_ n1_ n2_ n3_; clear hb hbox hg))
 (try simp only [Act.put, List.setIfInBounds_toArray, List.set_cons_zero, List.set_cons_succ])
 go_cut [34] (fun v34 wc => ∃ (kq : Nat) (x34_1 : Bool), v34 = .bool x34_1 ∧ Aside0 (laws_isRight.j0 kq x34_1 a0_0 a0_1 l0_2 a0_3 a0_4 l0_5 l0_6 = some r) ∧ Aside0 (kq ≤ k) ∧ Aside0 (wc.heap[gb107]? = some (.cells #[.int .i64 a0_0, .int .i64 a0_1, (.slice A0_2 l0_2.length c0_2), .int .i64 a0_3, .int .i64 a0_4, (.slice A0_5 l0_5.length c0_5), (.slice A0_6 l0_6.length c0_6)] 28 (0, 0))) ∧ Aside0 (Below w.heap.size w wc))
 case first =>
  have H := HC2.out
  clear HC2
  replace H := Option.bind_eq_some_iff.mp H
  obtain ⟨t108, A40, H⟩ := H
  replace H : (if t108 = true then (if a0_0 = 12 then (if (l0_5.length : Int) = (l0_6.length : Int) then (if a0_0 = 13 then (laws_isRight.j0 k (((l0_6.length : Int) % 2) != 0) a0_0 a0_1 l0_2 a0_3 a0_4 l0_5 l0_6) else (laws_isRight.j0 k false a0_0 a0_1 l0_2 a0_3 a0_4 l0_5 l0_6)) else (laws_isRight.j0 k true a0_0 a0_1 l0_2 a0_3 a0_4 l0_5 l0_6)) else (if a0_0 = 13 then (laws_isRight.j0 k (((l0_6.length : Int) % 2) != 0) a0_0 a0_1 l0_2 a0_3 a0_4 l0_5 l0_6) else (laws_isRight.j0 k false a0_0 a0_1 l0_2 a0_3 a0_4 l0_5 l0_6))) else (laws_isRight.j0 k true a0_0 a0_1 l0_2 a0_3 a0_4 l0_5 l0_6)) = some r := H
  have A4 := Aside0.mk A40
  clear A40
  by_cases c5 : t108 = true
  ·subst c5
   have H1 : (if a0_0 = 12 then (if (l0_5.length : Int) = (l0_6.length : Int) then (if a0_0 = 13 then (laws_isRight.j0 k (((l0_6.length : Int) % 2) != 0) a0_0 a0_1 l0_2 a0_3 a0_4 l0_5 l0_6) else (laws_isRight.j0 k false a0_0 a0_1 l0_2 a0_3 a0_4 l0_5 l0_6)) else (laws_isRight.j0 k true a0_0 a0_1 l0_2 a0_3 a0_4 l0_5 l0_6)) else (if a0_0 = 13 then (laws_isRight.j0 k (((l0_6.length : Int) % 2) != 0) a0_0 a0_1 l0_2 a0_3 a0_4 l0_5 l0_6) else (laws_isRight.j0 k false a0_0 a0_1 l0_2 a0_3 a0_4 l0_5 l0_6))) = some r := by rw [if_pos rfl] at H; exact H
   clear H
   have H := H1
   clear H1
   by_cases c6 : a0_0 = 12
   ·rw [if_pos c6] at H
    have c6b0 : (a0_0 == 12) = true := beq_iff_eq.mpr c6
    have c6b1 : (a0_0 != 12) = false := bne_eq_false_iff_eq.mpr c6
    clear c6
    (first | rw [c6b0] | (simp only [i64_w, i32_w]; rw [c6b0]) | skip)
    by_cases c7 : (l0_5.length : Int) = (l0_6.length : Int)
    ·rw [if_pos c7] at H
     have c7b0 : ((l0_5.length : Int) == (l0_6.length : Int)) = true := beq_iff_eq.mpr c7
     have c7b1 : ((l0_5.length : Int) != (l0_6.length : Int)) = false := bne_eq_false_iff_eq.mpr c7
     have c7b2 : (l0_5.length == l0_6.length) = true := by first | simpa using c7 | (simp at c7 ⊢; omega)
     clear c7
     by_cases c8 : a0_0 = 13
     ·rw [if_pos c8] at H
      have c8b0 : (a0_0 == 13) = true := beq_iff_eq.mpr c8
      have c8b1 : (a0_0 != 13) = false := bne_eq_false_iff_eq.mpr c8
      clear c8
      have H' := Aside0.mk H
      clear H
      have hcz9_0 : w3.cell? ⟨gb107, 0, none⟩ = some (.int .i64 a0_0) := (blk_cell BK107.out 0).trans rfl
      have hcz9_1 : w3.cell? ⟨gb107, 1, none⟩ = some (.int .i64 a0_1) := (blk_cell BK107.out 1).trans rfl
      have hcz9_2 : w3.cell? ⟨gb107, 2, none⟩ = some (.slice A0_2 l0_2.length c0_2) := (blk_cell BK107.out 2).trans rfl
      have hcz9_3 : w3.cell? ⟨gb107, 3, none⟩ = some (.int .i64 a0_3) := (blk_cell BK107.out 3).trans rfl
      have hcz9_4 : w3.cell? ⟨gb107, 4, none⟩ = some (.int .i64 a0_4) := (blk_cell BK107.out 4).trans rfl
      have hcz9_5 : w3.cell? ⟨gb107, 5, none⟩ = some (.slice A0_5 l0_5.length c0_5) := (blk_cell BK107.out 5).trans rfl
      have hcz9_6 : w3.cell? ⟨gb107, 6, none⟩ = some (.slice A0_6 l0_6.length c0_6) := (blk_cell BK107.out 6).trans rfl
      have hfz9_0 := blk_frozen BK107.out 0
      have hfz9_1 := blk_frozen BK107.out 1
      have hfz9_2 := blk_frozen BK107.out 2
      have hfz9_3 := blk_frozen BK107.out 3
      have hfz9_4 := blk_frozen BK107.out 4
      have hfz9_5 := blk_frozen BK107.out 5
      have hfz9_6 := blk_frozen BK107.out 6
      go_wp2_with (first | ((with_reducible refine gate_callee (f := 23) rfl ?_); refine goesL_ (some 7) rfl rfl Tryz.func23 (by kernel_rfl) rfl #[.int .i64 a0_0] rfl (by (try simp only [List.map_toArray, List.map_cons, List.map_nil]); first | done | rfl | (simp only [List.length_drop, List.length_take]; rfl)) ?_; (with_reducible refine (laws_isType.calls a0_0 true _ A4.out).mono ?_); rintro e w' ⟨rfl, ⟨nd, rfl⟩⟩; refine ⟨_, rfl, ?_⟩))
      go_meet
      case rel => exact ⟨_, ((((l0_6.length : Int) % 2) != 0)), (by first | rfl | (simp; done) | (simp [*]; done)), H', ⟨by first | omega | exact Nat.le_refl _⟩, ⟨by (with_reducible repeat (first | refine blk_drewN ?_ _ | refine blk_drew ?_ | refine blk_alloc ?_ _)); exact BK107.out⟩, ⟨by repeat (first | (with_reducible first | exact HB.out | apply below_alloc | apply pw_below_drewN | apply below_drew1 | refine below_set ?_ GE107.out) | exact HB.out)⟩⟩
     ·rw [if_neg c8] at H
      have c8b0 : (a0_0 == 13) = false := beq_eq_false_iff_ne.mpr c8
      have c8b1 : (a0_0 != 13) = true := bne_iff_ne.mpr c8
      have H' := Aside0.mk H
      clear H
      have hcz10_0 : w3.cell? ⟨gb107, 0, none⟩ = some (.int .i64 a0_0) := (blk_cell BK107.out 0).trans rfl
      have hcz10_1 : w3.cell? ⟨gb107, 1, none⟩ = some (.int .i64 a0_1) := (blk_cell BK107.out 1).trans rfl
      have hcz10_2 : w3.cell? ⟨gb107, 2, none⟩ = some (.slice A0_2 l0_2.length c0_2) := (blk_cell BK107.out 2).trans rfl
      have hcz10_3 : w3.cell? ⟨gb107, 3, none⟩ = some (.int .i64 a0_3) := (blk_cell BK107.out 3).trans rfl
      have hcz10_4 : w3.cell? ⟨gb107, 4, none⟩ = some (.int .i64 a0_4) := (blk_cell BK107.out 4).trans rfl
      have hcz10_5 : w3.cell? ⟨gb107, 5, none⟩ = some (.slice A0_5 l0_5.length c0_5) := (blk_cell BK107.out 5).trans rfl
      have hcz10_6 : w3.cell? ⟨gb107, 6, none⟩ = some (.slice A0_6 l0_6.length c0_6) := (blk_cell BK107.out 6).trans rfl
      have hfz10_0 := blk_frozen BK107.out 0
      have hfz10_1 := blk_frozen BK107.out 1
      have hfz10_2 := blk_frozen BK107.out 2
      have hfz10_3 := blk_frozen BK107.out 3
      have hfz10_4 := blk_frozen BK107.out 4
      have hfz10_5 := blk_frozen BK107.out 5
      have hfz10_6 := blk_frozen BK107.out 6
      go_wp2_with (first | ((with_reducible refine gate_callee (f := 23) rfl ?_); refine goesL_ (some 7) rfl rfl Tryz.func23 (by kernel_rfl) rfl #[.int .i64 a0_0] rfl (by (try simp only [List.map_toArray, List.map_cons, List.map_nil]); first | done | rfl | (simp only [List.length_drop, List.length_take]; rfl)) ?_; (with_reducible refine (laws_isType.calls a0_0 true _ A4.out).mono ?_); rintro e w' ⟨rfl, ⟨nd, rfl⟩⟩; refine ⟨_, rfl, ?_⟩))
      go_meet
      case rel => exact ⟨_, (false), (by first | rfl | (simp; done) | (simp [*]; done)), H', ⟨by first | omega | exact Nat.le_refl _⟩, ⟨by (with_reducible repeat (first | refine blk_drewN ?_ _ | refine blk_drew ?_ | refine blk_alloc ?_ _)); exact BK107.out⟩, ⟨by repeat (first | (with_reducible first | exact HB.out | apply below_alloc | apply pw_below_drewN | apply below_drew1 | refine below_set ?_ GE107.out) | exact HB.out)⟩⟩
    ·rw [if_neg c7] at H
     have c7b0 : ((l0_5.length : Int) == (l0_6.length : Int)) = false := beq_eq_false_iff_ne.mpr c7
     have c7b1 : ((l0_5.length : Int) != (l0_6.length : Int)) = true := bne_iff_ne.mpr c7
     have c7b2 : (l0_5.length == l0_6.length) = false := by first | simpa using c7 | (simp at c7 ⊢; omega)
     have H' := Aside0.mk H
     clear H
     have hcz11_0 : w3.cell? ⟨gb107, 0, none⟩ = some (.int .i64 a0_0) := (blk_cell BK107.out 0).trans rfl
     have hcz11_1 : w3.cell? ⟨gb107, 1, none⟩ = some (.int .i64 a0_1) := (blk_cell BK107.out 1).trans rfl
     have hcz11_2 : w3.cell? ⟨gb107, 2, none⟩ = some (.slice A0_2 l0_2.length c0_2) := (blk_cell BK107.out 2).trans rfl
     have hcz11_3 : w3.cell? ⟨gb107, 3, none⟩ = some (.int .i64 a0_3) := (blk_cell BK107.out 3).trans rfl
     have hcz11_4 : w3.cell? ⟨gb107, 4, none⟩ = some (.int .i64 a0_4) := (blk_cell BK107.out 4).trans rfl
     have hcz11_5 : w3.cell? ⟨gb107, 5, none⟩ = some (.slice A0_5 l0_5.length c0_5) := (blk_cell BK107.out 5).trans rfl
     have hcz11_6 : w3.cell? ⟨gb107, 6, none⟩ = some (.slice A0_6 l0_6.length c0_6) := (blk_cell BK107.out 6).trans rfl
     have hfz11_0 := blk_frozen BK107.out 0
     have hfz11_1 := blk_frozen BK107.out 1
     have hfz11_2 := blk_frozen BK107.out 2
     have hfz11_3 := blk_frozen BK107.out 3
     have hfz11_4 := blk_frozen BK107.out 4
     have hfz11_5 := blk_frozen BK107.out 5
     have hfz11_6 := blk_frozen BK107.out 6
     go_wp2_with (first | ((with_reducible refine gate_callee (f := 23) rfl ?_); refine goesL_ (some 7) rfl rfl Tryz.func23 (by kernel_rfl) rfl #[.int .i64 a0_0] rfl (by (try simp only [List.map_toArray, List.map_cons, List.map_nil]); first | done | rfl | (simp only [List.length_drop, List.length_take]; rfl)) ?_; (with_reducible refine (laws_isType.calls a0_0 true _ A4.out).mono ?_); rintro e w' ⟨rfl, ⟨nd, rfl⟩⟩; refine ⟨_, rfl, ?_⟩))
     go_meet
     case rel => exact ⟨_, (true), (by first | rfl | (simp; done) | (simp [*]; done)), H', ⟨by first | omega | exact Nat.le_refl _⟩, ⟨by (with_reducible repeat (first | refine blk_drewN ?_ _ | refine blk_drew ?_ | refine blk_alloc ?_ _)); exact BK107.out⟩, ⟨by repeat (first | (with_reducible first | exact HB.out | apply below_alloc | apply pw_below_drewN | apply below_drew1 | refine below_set ?_ GE107.out) | exact HB.out)⟩⟩
   ·rw [if_neg c6] at H
    have c6b0 : (a0_0 == 12) = false := beq_eq_false_iff_ne.mpr c6
    have c6b1 : (a0_0 != 12) = true := bne_iff_ne.mpr c6
    (first | rw [c6b0] | (simp only [i64_w, i32_w]; rw [c6b0]) | skip)
    by_cases c12 : a0_0 = 13
    ·rw [if_pos c12] at H
     have c12b0 : (a0_0 == 13) = true := beq_iff_eq.mpr c12
     have c12b1 : (a0_0 != 13) = false := bne_eq_false_iff_eq.mpr c12
     clear c12
     have H' := Aside0.mk H
     clear H
     have hcz13_0 : w3.cell? ⟨gb107, 0, none⟩ = some (.int .i64 a0_0) := (blk_cell BK107.out 0).trans rfl
     have hcz13_1 : w3.cell? ⟨gb107, 1, none⟩ = some (.int .i64 a0_1) := (blk_cell BK107.out 1).trans rfl
     have hcz13_2 : w3.cell? ⟨gb107, 2, none⟩ = some (.slice A0_2 l0_2.length c0_2) := (blk_cell BK107.out 2).trans rfl
     have hcz13_3 : w3.cell? ⟨gb107, 3, none⟩ = some (.int .i64 a0_3) := (blk_cell BK107.out 3).trans rfl
     have hcz13_4 : w3.cell? ⟨gb107, 4, none⟩ = some (.int .i64 a0_4) := (blk_cell BK107.out 4).trans rfl
     have hcz13_5 : w3.cell? ⟨gb107, 5, none⟩ = some (.slice A0_5 l0_5.length c0_5) := (blk_cell BK107.out 5).trans rfl
     have hcz13_6 : w3.cell? ⟨gb107, 6, none⟩ = some (.slice A0_6 l0_6.length c0_6) := (blk_cell BK107.out 6).trans rfl
     have hfz13_0 := blk_frozen BK107.out 0
     have hfz13_1 := blk_frozen BK107.out 1
     have hfz13_2 := blk_frozen BK107.out 2
     have hfz13_3 := blk_frozen BK107.out 3
     have hfz13_4 := blk_frozen BK107.out 4
     have hfz13_5 := blk_frozen BK107.out 5
     have hfz13_6 := blk_frozen BK107.out 6
     go_wp2_with (first | ((with_reducible refine gate_callee (f := 23) rfl ?_); refine goesL_ (some 7) rfl rfl Tryz.func23 (by kernel_rfl) rfl #[.int .i64 a0_0] rfl (by (try simp only [List.map_toArray, List.map_cons, List.map_nil]); first | done | rfl | (simp only [List.length_drop, List.length_take]; rfl)) ?_; (with_reducible refine (laws_isType.calls a0_0 true _ A4.out).mono ?_); rintro e w' ⟨rfl, ⟨nd, rfl⟩⟩; refine ⟨_, rfl, ?_⟩))
     go_meet
     case rel => exact ⟨_, ((((l0_6.length : Int) % 2) != 0)), (by first | rfl | (simp; done) | (simp [*]; done)), H', ⟨by first | omega | exact Nat.le_refl _⟩, ⟨by (with_reducible repeat (first | refine blk_drewN ?_ _ | refine blk_drew ?_ | refine blk_alloc ?_ _)); exact BK107.out⟩, ⟨by repeat (first | (with_reducible first | exact HB.out | apply below_alloc | apply pw_below_drewN | apply below_drew1 | refine below_set ?_ GE107.out) | exact HB.out)⟩⟩
    ·rw [if_neg c12] at H
     have c12b0 : (a0_0 == 13) = false := beq_eq_false_iff_ne.mpr c12
     have c12b1 : (a0_0 != 13) = true := bne_iff_ne.mpr c12
     have H' := Aside0.mk H
     clear H
     have hcz14_0 : w3.cell? ⟨gb107, 0, none⟩ = some (.int .i64 a0_0) := (blk_cell BK107.out 0).trans rfl
     have hcz14_1 : w3.cell? ⟨gb107, 1, none⟩ = some (.int .i64 a0_1) := (blk_cell BK107.out 1).trans rfl
     have hcz14_2 : w3.cell? ⟨gb107, 2, none⟩ = some (.slice A0_2 l0_2.length c0_2) := (blk_cell BK107.out 2).trans rfl
     have hcz14_3 : w3.cell? ⟨gb107, 3, none⟩ = some (.int .i64 a0_3) := (blk_cell BK107.out 3).trans rfl
     have hcz14_4 : w3.cell? ⟨gb107, 4, none⟩ = some (.int .i64 a0_4) := (blk_cell BK107.out 4).trans rfl
     have hcz14_5 : w3.cell? ⟨gb107, 5, none⟩ = some (.slice A0_5 l0_5.length c0_5) := (blk_cell BK107.out 5).trans rfl
     have hcz14_6 : w3.cell? ⟨gb107, 6, none⟩ = some (.slice A0_6 l0_6.length c0_6) := (blk_cell BK107.out 6).trans rfl
     have hfz14_0 := blk_frozen BK107.out 0
     have hfz14_1 := blk_frozen BK107.out 1
     have hfz14_2 := blk_frozen BK107.out 2
     have hfz14_3 := blk_frozen BK107.out 3
     have hfz14_4 := blk_frozen BK107.out 4
     have hfz14_5 := blk_frozen BK107.out 5
     have hfz14_6 := blk_frozen BK107.out 6
     go_wp2_with (first | ((with_reducible refine gate_callee (f := 23) rfl ?_); refine goesL_ (some 7) rfl rfl Tryz.func23 (by kernel_rfl) rfl #[.int .i64 a0_0] rfl (by (try simp only [List.map_toArray, List.map_cons, List.map_nil]); first | done | rfl | (simp only [List.length_drop, List.length_take]; rfl)) ?_; (with_reducible refine (laws_isType.calls a0_0 true _ A4.out).mono ?_); rintro e w' ⟨rfl, ⟨nd, rfl⟩⟩; refine ⟨_, rfl, ?_⟩))
     go_meet
     case rel => exact ⟨_, (false), (by first | rfl | (simp; done) | (simp [*]; done)), H', ⟨by first | omega | exact Nat.le_refl _⟩, ⟨by (with_reducible repeat (first | refine blk_drewN ?_ _ | refine blk_drew ?_ | refine blk_alloc ?_ _)); exact BK107.out⟩, ⟨by repeat (first | (with_reducible first | exact HB.out | apply below_alloc | apply pw_below_drewN | apply below_drew1 | refine below_set ?_ GE107.out) | exact HB.out)⟩⟩
  ·replace c5 := Bool.eq_false_iff.mpr c5
   subst c5
   have H1 : (laws_isRight.j0 k true a0_0 a0_1 l0_2 a0_3 a0_4 l0_5 l0_6) = some r := by rw [if_neg (show ¬ (false = true) by decide)] at H; exact H
   clear H
   have H := H1
   clear H1
   have H' := Aside0.mk H
   clear H
   have hcz15_0 : w3.cell? ⟨gb107, 0, none⟩ = some (.int .i64 a0_0) := (blk_cell BK107.out 0).trans rfl
   have hcz15_1 : w3.cell? ⟨gb107, 1, none⟩ = some (.int .i64 a0_1) := (blk_cell BK107.out 1).trans rfl
   have hcz15_2 : w3.cell? ⟨gb107, 2, none⟩ = some (.slice A0_2 l0_2.length c0_2) := (blk_cell BK107.out 2).trans rfl
   have hcz15_3 : w3.cell? ⟨gb107, 3, none⟩ = some (.int .i64 a0_3) := (blk_cell BK107.out 3).trans rfl
   have hcz15_4 : w3.cell? ⟨gb107, 4, none⟩ = some (.int .i64 a0_4) := (blk_cell BK107.out 4).trans rfl
   have hcz15_5 : w3.cell? ⟨gb107, 5, none⟩ = some (.slice A0_5 l0_5.length c0_5) := (blk_cell BK107.out 5).trans rfl
   have hcz15_6 : w3.cell? ⟨gb107, 6, none⟩ = some (.slice A0_6 l0_6.length c0_6) := (blk_cell BK107.out 6).trans rfl
   have hfz15_0 := blk_frozen BK107.out 0
   have hfz15_1 := blk_frozen BK107.out 1
   have hfz15_2 := blk_frozen BK107.out 2
   have hfz15_3 := blk_frozen BK107.out 3
   have hfz15_4 := blk_frozen BK107.out 4
   have hfz15_5 := blk_frozen BK107.out 5
   have hfz15_6 := blk_frozen BK107.out 6
   go_wp2_with (first | ((with_reducible refine gate_callee (f := 23) rfl ?_); refine goesL_ (some 7) rfl rfl Tryz.func23 (by kernel_rfl) rfl #[.int .i64 a0_0] rfl (by (try simp only [List.map_toArray, List.map_cons, List.map_nil]); first | done | rfl | (simp only [List.length_drop, List.length_take]; rfl)) ?_; (with_reducible refine (laws_isType.calls a0_0 false _ A4.out).mono ?_); rintro e w' ⟨rfl, ⟨nd, rfl⟩⟩; refine ⟨_, rfl, ?_⟩))
   go_meet
   case rel => exact ⟨_, (true), (by first | rfl | (simp; done) | (simp [*]; done)), H', ⟨by first | omega | exact Nat.le_refl _⟩, ⟨by (with_reducible repeat (first | refine blk_drewN ?_ _ | refine blk_drew ?_ | refine blk_alloc ?_ _)); exact BK107.out⟩, ⟨by repeat (first | (with_reducible first | exact HB.out | apply below_alloc | apply pw_below_drewN | apply below_drew1 | refine below_set ?_ GE107.out) | exact HB.out)⟩⟩
 case rest =>
  clear HC2
  try clear c1
  try clear c2
  try clear p2
  try clear c5
  try clear c6
  try clear c6b0
  try clear c6b1
  try clear c7
  try clear c7b0
  try clear c7b1
  try clear c7b2
  try clear c8
  try clear c8b0
  try clear c8b1
  try clear c10
  try clear c12
  try clear c12b0
  try clear c12b1
  try clear hcz10_0
  try clear hcz10_1
  try clear hcz10_2
  try clear hcz10_3
  try clear hcz10_4
  try clear hcz10_5
  try clear hcz10_6
  try clear hcz11_0
  try clear hcz11_1
  try clear hcz11_2
  try clear hcz11_3
  try clear hcz11_4
  try clear hcz11_5
  try clear hcz11_6
  try clear hcz13_0
  try clear hcz13_1
  try clear hcz13_2
  try clear hcz13_3
  try clear hcz13_4
  try clear hcz13_5
  try clear hcz13_6
  try clear hcz14_0
  try clear hcz14_1
  try clear hcz14_2
  try clear hcz14_3
  try clear hcz14_4
  try clear hcz14_5
  try clear hcz14_6
  try clear hcz15_0
  try clear hcz15_1
  try clear hcz15_2
  try clear hcz15_3
  try clear hcz15_4
  try clear hcz15_5
  try clear hcz15_6
  try clear hcz9_0
  try clear hcz9_1
  try clear hcz9_2
  try clear hcz9_3
  try clear hcz9_4
  try clear hcz9_5
  try clear hcz9_6
  try clear hfz10_0
  try clear hfz10_1
  try clear hfz10_2
  try clear hfz10_3
  try clear hfz10_4
  try clear hfz10_5
  try clear hfz10_6
  try clear hfz11_0
  try clear hfz11_1
  try clear hfz11_2
  try clear hfz11_3
  try clear hfz11_4
  try clear hfz11_5
  try clear hfz11_6
  try clear hfz13_0
  try clear hfz13_1
  try clear hfz13_2
  try clear hfz13_3
  try clear hfz13_4
  try clear hfz13_5
  try clear hfz13_6
  try clear hfz14_0
  try clear hfz14_1
  try clear hfz14_2
  try clear hfz14_3
  try clear hfz14_4
  try clear hfz14_5
  try clear hfz14_6
  try clear hfz15_0
  try clear hfz15_1
  try clear hfz15_2
  try clear hfz15_3
  try clear hfz15_4
  try clear hfz15_5
  try clear hfz15_6
  try clear hfz9_0
  try clear hfz9_1
  try clear hfz9_2
  try clear hfz9_3
  try clear hfz9_4
  try clear hfz9_5
  try clear hfz9_6
  obtain ⟨kq, x34_1, rfl, HA, HJ1, BK107, HB⟩ := hcut
  cases kq with
  | zero => exact absurd HA.out (by simp [laws_isRight.j0])
  | succ kj1 =>
   have H := HA.out
   clear HA
   simp only [laws_isRight.j0] at H
   by_cases c16 : x34_1 = true
   ·subst c16
    have H1 : (some false) = some r := by rw [if_pos rfl] at H; exact H
    clear H
    have H := H1
    clear H1
    obtain rfl := Option.some.inj H
    go_wp2
    go_ret
    exact ⟨by first | rfl | (simp [Nat.add_zero] <;> rfl) | (simp [*, Nat.add_zero] <;> rfl), by repeat (first | (with_reducible first | exact HB.out | apply below_alloc | apply pw_below_drewN | apply below_drew1 | refine below_set ?_ GE107.out) | exact HB.out)⟩
   ·replace c16 := Bool.eq_false_iff.mpr c16
    subst c16
    have H1 : (if a0_0 < 12 then (laws_isRight.j1 kj1 true a0_0 a0_1 l0_2 a0_3 a0_4 l0_5 l0_6) else (laws_isRight.j1 kj1 (a0_0 == 16) a0_0 a0_1 l0_2 a0_3 a0_4 l0_5 l0_6)) = some r := by rw [if_neg (show ¬ (false = true) by decide)] at H; exact H
    clear H
    have H := H1
    clear H1
    have HC17 := Aside0.mk H
    clear H
    go_upto_region 3 with (fail)
    go_cut [42] (fun v42 wc => ∃ (kq : Nat) (x42_16 : Bool), v42 = .bool x42_16 ∧ Aside0 (laws_isRight.j1 kq x42_16 a0_0 a0_1 l0_2 a0_3 a0_4 l0_5 l0_6 = some r) ∧ Aside0 (kq ≤ kj1) ∧ Aside0 (wc.heap[gb107]? = some (.cells #[.int .i64 a0_0, .int .i64 a0_1, (.slice A0_2 l0_2.length c0_2), .int .i64 a0_3, .int .i64 a0_4, (.slice A0_5 l0_5.length c0_5), (.slice A0_6 l0_6.length c0_6)] 28 (0, 0))) ∧ Aside0 (Below w.heap.size w wc))
    case first =>
     have H := HC17.out
     clear HC17
     by_cases c18 : a0_0 < 12
     ·rw [if_pos c18] at H
      have c18b0 : decide (a0_0 < 12) = true := decide_eq_true c18
      clear c18
      (first | rw [c18b0] | (simp only [i64_w, i32_w]; rw [c18b0]) | skip)
      have H' := Aside0.mk H
      clear H
      have hcz19_0 : wc.cell? ⟨gb107, 0, none⟩ = some (.int .i64 a0_0) := (blk_cell BK107.out 0).trans rfl
      have hcz19_1 : wc.cell? ⟨gb107, 1, none⟩ = some (.int .i64 a0_1) := (blk_cell BK107.out 1).trans rfl
      have hcz19_2 : wc.cell? ⟨gb107, 2, none⟩ = some (.slice A0_2 l0_2.length c0_2) := (blk_cell BK107.out 2).trans rfl
      have hcz19_3 : wc.cell? ⟨gb107, 3, none⟩ = some (.int .i64 a0_3) := (blk_cell BK107.out 3).trans rfl
      have hcz19_4 : wc.cell? ⟨gb107, 4, none⟩ = some (.int .i64 a0_4) := (blk_cell BK107.out 4).trans rfl
      have hcz19_5 : wc.cell? ⟨gb107, 5, none⟩ = some (.slice A0_5 l0_5.length c0_5) := (blk_cell BK107.out 5).trans rfl
      have hcz19_6 : wc.cell? ⟨gb107, 6, none⟩ = some (.slice A0_6 l0_6.length c0_6) := (blk_cell BK107.out 6).trans rfl
      have hfz19_0 := blk_frozen BK107.out 0
      have hfz19_1 := blk_frozen BK107.out 1
      have hfz19_2 := blk_frozen BK107.out 2
      have hfz19_3 := blk_frozen BK107.out 3
      have hfz19_4 := blk_frozen BK107.out 4
      have hfz19_5 := blk_frozen BK107.out 5
      have hfz19_6 := blk_frozen BK107.out 6
      go_wp2
      go_meet
      case rel => exact ⟨_, (true), (by first | rfl | (simp; done) | (simp [*]; done)), H', ⟨by have := HJ1.out; first | omega | exact Nat.le_refl _⟩, ⟨by (with_reducible repeat (first | refine blk_drewN ?_ _ | refine blk_drew ?_ | refine blk_alloc ?_ _)); exact BK107.out⟩, ⟨by repeat (first | (with_reducible first | exact HB.out | apply below_alloc | apply pw_below_drewN | apply below_drew1 | refine below_set ?_ GE107.out) | exact HB.out)⟩⟩
     ·rw [if_neg c18] at H
      have c18b0 : decide (a0_0 < 12) = false := decide_eq_false c18
      clear c18
      (first | rw [c18b0] | (simp only [i64_w, i32_w]; rw [c18b0]) | skip)
      have H' := Aside0.mk H
      clear H
      have hcz20_0 : wc.cell? ⟨gb107, 0, none⟩ = some (.int .i64 a0_0) := (blk_cell BK107.out 0).trans rfl
      have hcz20_1 : wc.cell? ⟨gb107, 1, none⟩ = some (.int .i64 a0_1) := (blk_cell BK107.out 1).trans rfl
      have hcz20_2 : wc.cell? ⟨gb107, 2, none⟩ = some (.slice A0_2 l0_2.length c0_2) := (blk_cell BK107.out 2).trans rfl
      have hcz20_3 : wc.cell? ⟨gb107, 3, none⟩ = some (.int .i64 a0_3) := (blk_cell BK107.out 3).trans rfl
      have hcz20_4 : wc.cell? ⟨gb107, 4, none⟩ = some (.int .i64 a0_4) := (blk_cell BK107.out 4).trans rfl
      have hcz20_5 : wc.cell? ⟨gb107, 5, none⟩ = some (.slice A0_5 l0_5.length c0_5) := (blk_cell BK107.out 5).trans rfl
      have hcz20_6 : wc.cell? ⟨gb107, 6, none⟩ = some (.slice A0_6 l0_6.length c0_6) := (blk_cell BK107.out 6).trans rfl
      have hfz20_0 := blk_frozen BK107.out 0
      have hfz20_1 := blk_frozen BK107.out 1
      have hfz20_2 := blk_frozen BK107.out 2
      have hfz20_3 := blk_frozen BK107.out 3
      have hfz20_4 := blk_frozen BK107.out 4
      have hfz20_5 := blk_frozen BK107.out 5
      have hfz20_6 := blk_frozen BK107.out 6
      go_wp2
      go_meet
      case rel => exact ⟨_, ((a0_0 == 16)), (by first | rfl | (simp; done) | (simp [*]; done)), H', ⟨by have := HJ1.out; first | omega | exact Nat.le_refl _⟩, ⟨by (with_reducible repeat (first | refine blk_drewN ?_ _ | refine blk_drew ?_ | refine blk_alloc ?_ _)); exact BK107.out⟩, ⟨by repeat (first | (with_reducible first | exact HB.out | apply below_alloc | apply pw_below_drewN | apply below_drew1 | refine below_set ?_ GE107.out) | exact HB.out)⟩⟩
    case rest =>
     clear HC17
     try clear c1
     try clear c2
     try clear p2
     try clear c5
     try clear c6
     try clear c6b0
     try clear c6b1
     try clear c7
     try clear c7b0
     try clear c7b1
     try clear c7b2
     try clear c8
     try clear c8b0
     try clear c8b1
     try clear c10
     try clear c12
     try clear c12b0
     try clear c12b1
     try clear c16
     try clear c18
     try clear c18b0
     try clear hcz10_0
     try clear hcz10_1
     try clear hcz10_2
     try clear hcz10_3
     try clear hcz10_4
     try clear hcz10_5
     try clear hcz10_6
     try clear hcz11_0
     try clear hcz11_1
     try clear hcz11_2
     try clear hcz11_3
     try clear hcz11_4
     try clear hcz11_5
     try clear hcz11_6
     try clear hcz13_0
     try clear hcz13_1
     try clear hcz13_2
     try clear hcz13_3
     try clear hcz13_4
     try clear hcz13_5
     try clear hcz13_6
     try clear hcz14_0
     try clear hcz14_1
     try clear hcz14_2
     try clear hcz14_3
     try clear hcz14_4
     try clear hcz14_5
     try clear hcz14_6
     try clear hcz15_0
     try clear hcz15_1
     try clear hcz15_2
     try clear hcz15_3
     try clear hcz15_4
     try clear hcz15_5
     try clear hcz15_6
     try clear hcz19_0
     try clear hcz19_1
     try clear hcz19_2
     try clear hcz19_3
     try clear hcz19_4
     try clear hcz19_5
     try clear hcz19_6
     try clear hcz20_0
     try clear hcz20_1
     try clear hcz20_2
     try clear hcz20_3
     try clear hcz20_4
     try clear hcz20_5
     try clear hcz20_6
     try clear hcz9_0
     try clear hcz9_1
     try clear hcz9_2
     try clear hcz9_3
     try clear hcz9_4
     try clear hcz9_5
     try clear hcz9_6
     try clear hfz10_0
     try clear hfz10_1
     try clear hfz10_2
     try clear hfz10_3
     try clear hfz10_4
     try clear hfz10_5
     try clear hfz10_6
     try clear hfz11_0
     try clear hfz11_1
     try clear hfz11_2
     try clear hfz11_3
     try clear hfz11_4
     try clear hfz11_5
     try clear hfz11_6
     try clear hfz13_0
     try clear hfz13_1
     try clear hfz13_2
     try clear hfz13_3
     try clear hfz13_4
     try clear hfz13_5
     try clear hfz13_6
     try clear hfz14_0
     try clear hfz14_1
     try clear hfz14_2
     try clear hfz14_3
     try clear hfz14_4
     try clear hfz14_5
     try clear hfz14_6
     try clear hfz15_0
     try clear hfz15_1
     try clear hfz15_2
     try clear hfz15_3
     try clear hfz15_4
     try clear hfz15_5
     try clear hfz15_6
     try clear hfz19_0
     try clear hfz19_1
     try clear hfz19_2
     try clear hfz19_3
     try clear hfz19_4
     try clear hfz19_5
     try clear hfz19_6
     try clear hfz20_0
     try clear hfz20_1
     try clear hfz20_2
     try clear hfz20_3
     try clear hfz20_4
     try clear hfz20_5
     try clear hfz20_6
     try clear hfz9_0
     try clear hfz9_1
     try clear hfz9_2
     try clear hfz9_3
     try clear hfz9_4
     try clear hfz9_5
     try clear hfz9_6
     try clear p2
     obtain ⟨kq, x42_16, rfl, HA, HJ16, BK107, HB⟩ := hcut
     cases kq with
     | zero => exact absurd HA.out (by simp [laws_isRight.j1])
     | succ kj16 =>
      have H := HA.out
      clear HA
      simp only [laws_isRight.j1] at H
      by_cases c21 : x42_16 = true
      ·subst c21
       have H1 : (some true) = some r := by rw [if_pos rfl] at H; exact H
       clear H
       have H := H1
       clear H1
       obtain rfl := Option.some.inj H
       go_wp2
       go_ret
       exact ⟨by first | rfl | (simp [Nat.add_zero] <;> rfl) | (simp [*, Nat.add_zero] <;> rfl), by repeat (first | (with_reducible first | exact HB.out | apply below_alloc | apply pw_below_drewN | apply below_drew1 | refine below_set ?_ GE107.out) | exact HB.out)⟩
      ·replace c21 := Bool.eq_false_iff.mpr c21
       subst c21
       have H1 : (if a0_0 = 13 then (if (l0_6.length : Int) = 0 then (if a0_3 = 0 then (laws_isRight.j2 kj16 (a0_4 == 0) a0_0 a0_1 l0_2 a0_3 a0_4 l0_5 l0_6) else (laws_isRight.j2 kj16 false a0_0 a0_1 l0_2 a0_3 a0_4 l0_5 l0_6)) else (laws_isRight.j2 kj16 false a0_0 a0_1 l0_2 a0_3 a0_4 l0_5 l0_6)) else (laws_isRight.j2 kj16 false a0_0 a0_1 l0_2 a0_3 a0_4 l0_5 l0_6)) = some r := by rw [if_neg (show ¬ (false = true) by decide)] at H; exact H
       clear H
       have H := H1
       clear H1
       have HC22 := Aside0.mk H
       clear H
       go_upto_region 5 with (fail)
       go_cut [61] (fun v61 wc => ∃ (kq : Nat) (x61_21 : Bool), v61 = .bool x61_21 ∧ Aside0 (laws_isRight.j2 kq x61_21 a0_0 a0_1 l0_2 a0_3 a0_4 l0_5 l0_6 = some r) ∧ Aside0 (kq ≤ kj16) ∧ Aside0 (wc.heap[gb107]? = some (.cells #[.int .i64 a0_0, .int .i64 a0_1, (.slice A0_2 l0_2.length c0_2), .int .i64 a0_3, .int .i64 a0_4, (.slice A0_5 l0_5.length c0_5), (.slice A0_6 l0_6.length c0_6)] 28 (0, 0))) ∧ Aside0 (Below w.heap.size w wc))
       case first =>
        have H := HC22.out
        clear HC22
        by_cases c23 : a0_0 = 13
        ·rw [if_pos c23] at H
         have c23b0 : (a0_0 == 13) = true := beq_iff_eq.mpr c23
         have c23b1 : (a0_0 != 13) = false := bne_eq_false_iff_eq.mpr c23
         clear c23
         (first | rw [c23b0] | (simp only [i64_w, i32_w]; rw [c23b0]) | skip)
         by_cases c24 : (l0_6.length : Int) = 0
         ·rw [if_pos c24] at H
          have c24b0 : ((l0_6.length : Int) == 0) = true := beq_iff_eq.mpr c24
          have c24b1 : ((l0_6.length : Int) != 0) = false := bne_eq_false_iff_eq.mpr c24
          clear c24
          by_cases c25 : a0_3 = 0
          ·rw [if_pos c25] at H
           have c25b0 : (a0_3 == 0) = true := beq_iff_eq.mpr c25
           have c25b1 : (a0_3 != 0) = false := bne_eq_false_iff_eq.mpr c25
           clear c25
           have H' := Aside0.mk H
           clear H
           have hcz26_0 : wc.cell? ⟨gb107, 0, none⟩ = some (.int .i64 a0_0) := (blk_cell BK107.out 0).trans rfl
           have hcz26_1 : wc.cell? ⟨gb107, 1, none⟩ = some (.int .i64 a0_1) := (blk_cell BK107.out 1).trans rfl
           have hcz26_2 : wc.cell? ⟨gb107, 2, none⟩ = some (.slice A0_2 l0_2.length c0_2) := (blk_cell BK107.out 2).trans rfl
           have hcz26_3 : wc.cell? ⟨gb107, 3, none⟩ = some (.int .i64 a0_3) := (blk_cell BK107.out 3).trans rfl
           have hcz26_4 : wc.cell? ⟨gb107, 4, none⟩ = some (.int .i64 a0_4) := (blk_cell BK107.out 4).trans rfl
           have hcz26_5 : wc.cell? ⟨gb107, 5, none⟩ = some (.slice A0_5 l0_5.length c0_5) := (blk_cell BK107.out 5).trans rfl
           have hcz26_6 : wc.cell? ⟨gb107, 6, none⟩ = some (.slice A0_6 l0_6.length c0_6) := (blk_cell BK107.out 6).trans rfl
           have hfz26_0 := blk_frozen BK107.out 0
           have hfz26_1 := blk_frozen BK107.out 1
           have hfz26_2 := blk_frozen BK107.out 2
           have hfz26_3 := blk_frozen BK107.out 3
           have hfz26_4 := blk_frozen BK107.out 4
           have hfz26_5 := blk_frozen BK107.out 5
           have hfz26_6 := blk_frozen BK107.out 6
           go_wp2
           go_meet
           case rel => exact ⟨_, ((a0_4 == 0)), (by first | rfl | (simp; done) | (simp [*]; done)), H', ⟨by have := HJ1.out; have := HJ16.out; first | omega | exact Nat.le_refl _⟩, ⟨by (with_reducible repeat (first | refine blk_drewN ?_ _ | refine blk_drew ?_ | refine blk_alloc ?_ _)); exact BK107.out⟩, ⟨by repeat (first | (with_reducible first | exact HB.out | apply below_alloc | apply pw_below_drewN | apply below_drew1 | refine below_set ?_ GE107.out) | exact HB.out)⟩⟩
          ·rw [if_neg c25] at H
           have c25b0 : (a0_3 == 0) = false := beq_eq_false_iff_ne.mpr c25
           have c25b1 : (a0_3 != 0) = true := bne_iff_ne.mpr c25
           have H' := Aside0.mk H
           clear H
           have hcz27_0 : wc.cell? ⟨gb107, 0, none⟩ = some (.int .i64 a0_0) := (blk_cell BK107.out 0).trans rfl
           have hcz27_1 : wc.cell? ⟨gb107, 1, none⟩ = some (.int .i64 a0_1) := (blk_cell BK107.out 1).trans rfl
           have hcz27_2 : wc.cell? ⟨gb107, 2, none⟩ = some (.slice A0_2 l0_2.length c0_2) := (blk_cell BK107.out 2).trans rfl
           have hcz27_3 : wc.cell? ⟨gb107, 3, none⟩ = some (.int .i64 a0_3) := (blk_cell BK107.out 3).trans rfl
           have hcz27_4 : wc.cell? ⟨gb107, 4, none⟩ = some (.int .i64 a0_4) := (blk_cell BK107.out 4).trans rfl
           have hcz27_5 : wc.cell? ⟨gb107, 5, none⟩ = some (.slice A0_5 l0_5.length c0_5) := (blk_cell BK107.out 5).trans rfl
           have hcz27_6 : wc.cell? ⟨gb107, 6, none⟩ = some (.slice A0_6 l0_6.length c0_6) := (blk_cell BK107.out 6).trans rfl
           have hfz27_0 := blk_frozen BK107.out 0
           have hfz27_1 := blk_frozen BK107.out 1
           have hfz27_2 := blk_frozen BK107.out 2
           have hfz27_3 := blk_frozen BK107.out 3
           have hfz27_4 := blk_frozen BK107.out 4
           have hfz27_5 := blk_frozen BK107.out 5
           have hfz27_6 := blk_frozen BK107.out 6
           go_wp2
           go_meet
           case rel => exact ⟨_, (false), (by first | rfl | (simp; done) | (simp [*]; done)), H', ⟨by have := HJ1.out; have := HJ16.out; first | omega | exact Nat.le_refl _⟩, ⟨by (with_reducible repeat (first | refine blk_drewN ?_ _ | refine blk_drew ?_ | refine blk_alloc ?_ _)); exact BK107.out⟩, ⟨by repeat (first | (with_reducible first | exact HB.out | apply below_alloc | apply pw_below_drewN | apply below_drew1 | refine below_set ?_ GE107.out) | exact HB.out)⟩⟩
         ·rw [if_neg c24] at H
          have c24b0 : ((l0_6.length : Int) == 0) = false := beq_eq_false_iff_ne.mpr c24
          have c24b1 : ((l0_6.length : Int) != 0) = true := bne_iff_ne.mpr c24
          have c24b2 : ¬ (l0_6 = []) := fun h_ => c24 (by rw [h_]; rfl)
          have H' := Aside0.mk H
          clear H
          have hcz28_0 : wc.cell? ⟨gb107, 0, none⟩ = some (.int .i64 a0_0) := (blk_cell BK107.out 0).trans rfl
          have hcz28_1 : wc.cell? ⟨gb107, 1, none⟩ = some (.int .i64 a0_1) := (blk_cell BK107.out 1).trans rfl
          have hcz28_2 : wc.cell? ⟨gb107, 2, none⟩ = some (.slice A0_2 l0_2.length c0_2) := (blk_cell BK107.out 2).trans rfl
          have hcz28_3 : wc.cell? ⟨gb107, 3, none⟩ = some (.int .i64 a0_3) := (blk_cell BK107.out 3).trans rfl
          have hcz28_4 : wc.cell? ⟨gb107, 4, none⟩ = some (.int .i64 a0_4) := (blk_cell BK107.out 4).trans rfl
          have hcz28_5 : wc.cell? ⟨gb107, 5, none⟩ = some (.slice A0_5 l0_5.length c0_5) := (blk_cell BK107.out 5).trans rfl
          have hcz28_6 : wc.cell? ⟨gb107, 6, none⟩ = some (.slice A0_6 l0_6.length c0_6) := (blk_cell BK107.out 6).trans rfl
          have hfz28_0 := blk_frozen BK107.out 0
          have hfz28_1 := blk_frozen BK107.out 1
          have hfz28_2 := blk_frozen BK107.out 2
          have hfz28_3 := blk_frozen BK107.out 3
          have hfz28_4 := blk_frozen BK107.out 4
          have hfz28_5 := blk_frozen BK107.out 5
          have hfz28_6 := blk_frozen BK107.out 6
          go_wp2
          go_meet
          case rel => exact ⟨_, (false), (by first | rfl | (simp; done) | (simp [*]; done)), H', ⟨by have := HJ1.out; have := HJ16.out; first | omega | exact Nat.le_refl _⟩, ⟨by (with_reducible repeat (first | refine blk_drewN ?_ _ | refine blk_drew ?_ | refine blk_alloc ?_ _)); exact BK107.out⟩, ⟨by repeat (first | (with_reducible first | exact HB.out | apply below_alloc | apply pw_below_drewN | apply below_drew1 | refine below_set ?_ GE107.out) | exact HB.out)⟩⟩
        ·rw [if_neg c23] at H
         have c23b0 : (a0_0 == 13) = false := beq_eq_false_iff_ne.mpr c23
         have c23b1 : (a0_0 != 13) = true := bne_iff_ne.mpr c23
         (first | rw [c23b0] | (simp only [i64_w, i32_w]; rw [c23b0]) | skip)
         have H' := Aside0.mk H
         clear H
         have hcz29_0 : wc.cell? ⟨gb107, 0, none⟩ = some (.int .i64 a0_0) := (blk_cell BK107.out 0).trans rfl
         have hcz29_1 : wc.cell? ⟨gb107, 1, none⟩ = some (.int .i64 a0_1) := (blk_cell BK107.out 1).trans rfl
         have hcz29_2 : wc.cell? ⟨gb107, 2, none⟩ = some (.slice A0_2 l0_2.length c0_2) := (blk_cell BK107.out 2).trans rfl
         have hcz29_3 : wc.cell? ⟨gb107, 3, none⟩ = some (.int .i64 a0_3) := (blk_cell BK107.out 3).trans rfl
         have hcz29_4 : wc.cell? ⟨gb107, 4, none⟩ = some (.int .i64 a0_4) := (blk_cell BK107.out 4).trans rfl
         have hcz29_5 : wc.cell? ⟨gb107, 5, none⟩ = some (.slice A0_5 l0_5.length c0_5) := (blk_cell BK107.out 5).trans rfl
         have hcz29_6 : wc.cell? ⟨gb107, 6, none⟩ = some (.slice A0_6 l0_6.length c0_6) := (blk_cell BK107.out 6).trans rfl
         have hfz29_0 := blk_frozen BK107.out 0
         have hfz29_1 := blk_frozen BK107.out 1
         have hfz29_2 := blk_frozen BK107.out 2
         have hfz29_3 := blk_frozen BK107.out 3
         have hfz29_4 := blk_frozen BK107.out 4
         have hfz29_5 := blk_frozen BK107.out 5
         have hfz29_6 := blk_frozen BK107.out 6
         go_wp2
         go_meet
         case rel => exact ⟨_, (false), (by first | rfl | (simp; done) | (simp [*]; done)), H', ⟨by have := HJ1.out; have := HJ16.out; first | omega | exact Nat.le_refl _⟩, ⟨by (with_reducible repeat (first | refine blk_drewN ?_ _ | refine blk_drew ?_ | refine blk_alloc ?_ _)); exact BK107.out⟩, ⟨by repeat (first | (with_reducible first | exact HB.out | apply below_alloc | apply pw_below_drewN | apply below_drew1 | refine below_set ?_ GE107.out) | exact HB.out)⟩⟩
       case rest =>
        clear HC22
        try clear c1
        try clear c2
        try clear p2
        try clear c5
        try clear c6
        try clear c6b0
        try clear c6b1
        try clear c7
        try clear c7b0
        try clear c7b1
        try clear c7b2
        try clear c8
        try clear c8b0
        try clear c8b1
        try clear c10
        try clear c12
        try clear c12b0
        try clear c12b1
        try clear c16
        try clear c18
        try clear c18b0
        try clear c21
        try clear c23
        try clear c23b0
        try clear c23b1
        try clear c24
        try clear c24b0
        try clear c24b1
        try clear c24b2
        try clear c25
        try clear c25b0
        try clear c25b1
        try clear hcz10_0
        try clear hcz10_1
        try clear hcz10_2
        try clear hcz10_3
        try clear hcz10_4
        try clear hcz10_5
        try clear hcz10_6
        try clear hcz11_0
        try clear hcz11_1
        try clear hcz11_2
        try clear hcz11_3
        try clear hcz11_4
        try clear hcz11_5
        try clear hcz11_6
        try clear hcz13_0
        try clear hcz13_1
        try clear hcz13_2
        try clear hcz13_3
        try clear hcz13_4
        try clear hcz13_5
        try clear hcz13_6
        try clear hcz14_0
        try clear hcz14_1
        try clear hcz14_2
        try clear hcz14_3
        try clear hcz14_4
        try clear hcz14_5
        try clear hcz14_6
        try clear hcz15_0
        try clear hcz15_1
        try clear hcz15_2
        try clear hcz15_3
        try clear hcz15_4
        try clear hcz15_5
        try clear hcz15_6
        try clear hcz19_0
        try clear hcz19_1
        try clear hcz19_2
        try clear hcz19_3
        try clear hcz19_4
        try clear hcz19_5
        try clear hcz19_6
        try clear hcz20_0
        try clear hcz20_1
        try clear hcz20_2
        try clear hcz20_3
        try clear hcz20_4
        try clear hcz20_5
        try clear hcz20_6
        try clear hcz26_0
        try clear hcz26_1
        try clear hcz26_2
        try clear hcz26_3
        try clear hcz26_4
        try clear hcz26_5
        try clear hcz26_6
        try clear hcz27_0
        try clear hcz27_1
        try clear hcz27_2
        try clear hcz27_3
        try clear hcz27_4
        try clear hcz27_5
        try clear hcz27_6
        try clear hcz28_0
        try clear hcz28_1
        try clear hcz28_2
        try clear hcz28_3
        try clear hcz28_4
        try clear hcz28_5
        try clear hcz28_6
        try clear hcz29_0
        try clear hcz29_1
        try clear hcz29_2
        try clear hcz29_3
        try clear hcz29_4
        try clear hcz29_5
        try clear hcz29_6
        try clear hcz9_0
        try clear hcz9_1
        try clear hcz9_2
        try clear hcz9_3
        try clear hcz9_4
        try clear hcz9_5
        try clear hcz9_6
        try clear hfz10_0
        try clear hfz10_1
        try clear hfz10_2
        try clear hfz10_3
        try clear hfz10_4
        try clear hfz10_5
        try clear hfz10_6
        try clear hfz11_0
        try clear hfz11_1
        try clear hfz11_2
        try clear hfz11_3
        try clear hfz11_4
        try clear hfz11_5
        try clear hfz11_6
        try clear hfz13_0
        try clear hfz13_1
        try clear hfz13_2
        try clear hfz13_3
        try clear hfz13_4
        try clear hfz13_5
        try clear hfz13_6
        try clear hfz14_0
        try clear hfz14_1
        try clear hfz14_2
        try clear hfz14_3
        try clear hfz14_4
        try clear hfz14_5
        try clear hfz14_6
        try clear hfz15_0
        try clear hfz15_1
        try clear hfz15_2
        try clear hfz15_3
        try clear hfz15_4
        try clear hfz15_5
        try clear hfz15_6
        try clear hfz19_0
        try clear hfz19_1
        try clear hfz19_2
        try clear hfz19_3
        try clear hfz19_4
        try clear hfz19_5
        try clear hfz19_6
        try clear hfz20_0
        try clear hfz20_1
        try clear hfz20_2
        try clear hfz20_3
        try clear hfz20_4
        try clear hfz20_5
        try clear hfz20_6
        try clear hfz26_0
        try clear hfz26_1
        try clear hfz26_2
        try clear hfz26_3
        try clear hfz26_4
        try clear hfz26_5
        try clear hfz26_6
        try clear hfz27_0
        try clear hfz27_1
        try clear hfz27_2
        try clear hfz27_3
        try clear hfz27_4
        try clear hfz27_5
        try clear hfz27_6
        try clear hfz28_0
        try clear hfz28_1
        try clear hfz28_2
        try clear hfz28_3
        try clear hfz28_4
        try clear hfz28_5
        try clear hfz28_6
        try clear hfz29_0
        try clear hfz29_1
        try clear hfz29_2
        try clear hfz29_3
        try clear hfz29_4
        try clear hfz29_5
        try clear hfz29_6
        try clear hfz9_0
        try clear hfz9_1
        try clear hfz9_2
        try clear hfz9_3
        try clear hfz9_4
        try clear hfz9_5
        try clear hfz9_6
        try clear p2
        obtain ⟨kq, x61_21, rfl, HA, HJ21, BK107, HB⟩ := hcut
        cases kq with
        | zero => exact absurd HA.out (by simp [laws_isRight.j2])
        | succ kj21 =>
         have H := HA.out
         clear HA
         simp only [laws_isRight.j2] at H
         by_cases c30 : x61_21 = true
         ·subst c30
          have H1 : (some true) = some r := by rw [if_pos rfl] at H; exact H
          clear H
          have H := H1
          clear H1
          obtain rfl := Option.some.inj H
          go_wp2
          go_ret
          exact ⟨by first | rfl | (simp [Nat.add_zero] <;> rfl) | (simp [*, Nat.add_zero] <;> rfl), by repeat (first | (with_reducible first | exact HB.out | apply below_alloc | apply pw_below_drewN | apply below_drew1 | refine below_set ?_ GE107.out) | exact HB.out)⟩
         ·replace c30 := Bool.eq_false_iff.mpr c30
          subst c30
          have H1 : (if a0_0 = 12 then (if a0_0 = 13 then ((laws_isType.f a0_3).bind fun t109 => (laws_isRight.j3 kj21 (!t109) a0_0 a0_1 l0_2 a0_3 a0_4 l0_5 l0_6)) else (laws_isRight.j3 kj21 false a0_0 a0_1 l0_2 a0_3 a0_4 l0_5 l0_6)) else ((laws_isType.f a0_4).bind fun t110 => (if t110 = true then (if a0_0 = 13 then ((laws_isType.f a0_3).bind fun t111 => (laws_isRight.j3 kj21 (!t111) a0_0 a0_1 l0_2 a0_3 a0_4 l0_5 l0_6)) else (laws_isRight.j3 kj21 false a0_0 a0_1 l0_2 a0_3 a0_4 l0_5 l0_6)) else (laws_isRight.j3 kj21 true a0_0 a0_1 l0_2 a0_3 a0_4 l0_5 l0_6)))) = some r := by rw [if_neg (show ¬ (false = true) by decide)] at H; exact H
          clear H
          have H := H1
          clear H1
          have HC31 := Aside0.mk H
          clear H
          go_upto_region 7 with (fail)
          go_cut [81] (fun v81 wc => ∃ (kq : Nat) (x81_30 : Bool), v81 = .bool x81_30 ∧ Aside0 (laws_isRight.j3 kq x81_30 a0_0 a0_1 l0_2 a0_3 a0_4 l0_5 l0_6 = some r) ∧ Aside0 (kq ≤ kj21) ∧ Aside0 (wc.heap[gb107]? = some (.cells #[.int .i64 a0_0, .int .i64 a0_1, (.slice A0_2 l0_2.length c0_2), .int .i64 a0_3, .int .i64 a0_4, (.slice A0_5 l0_5.length c0_5), (.slice A0_6 l0_6.length c0_6)] 28 (0, 0))) ∧ Aside0 (Below w.heap.size w wc))
          case first =>
           have H := HC31.out
           clear HC31
           by_cases c32 : a0_0 = 12
           ·rw [if_pos c32] at H
            have c32b0 : (a0_0 == 12) = true := beq_iff_eq.mpr c32
            have c32b1 : (a0_0 != 12) = false := bne_eq_false_iff_eq.mpr c32
            clear c32
            (first | rw [c32b0] | (simp only [i64_w, i32_w]; rw [c32b0]) | skip)
            by_cases c33 : a0_0 = 13
            ·rw [if_pos c33] at H
             have c33b0 : (a0_0 == 13) = true := beq_iff_eq.mpr c33
             have c33b1 : (a0_0 != 13) = false := bne_eq_false_iff_eq.mpr c33
             clear c33
             replace H := Option.bind_eq_some_iff.mp H
             obtain ⟨t109, A340, H⟩ := H
             replace H : (laws_isRight.j3 kj21 (!t109) a0_0 a0_1 l0_2 a0_3 a0_4 l0_5 l0_6) = some r := H
             have A34 := Aside0.mk A340
             clear A340
             have H' := Aside0.mk H
             clear H
             have hcz35_0 : wc.cell? ⟨gb107, 0, none⟩ = some (.int .i64 a0_0) := (blk_cell BK107.out 0).trans rfl
             have hcz35_1 : wc.cell? ⟨gb107, 1, none⟩ = some (.int .i64 a0_1) := (blk_cell BK107.out 1).trans rfl
             have hcz35_2 : wc.cell? ⟨gb107, 2, none⟩ = some (.slice A0_2 l0_2.length c0_2) := (blk_cell BK107.out 2).trans rfl
             have hcz35_3 : wc.cell? ⟨gb107, 3, none⟩ = some (.int .i64 a0_3) := (blk_cell BK107.out 3).trans rfl
             have hcz35_4 : wc.cell? ⟨gb107, 4, none⟩ = some (.int .i64 a0_4) := (blk_cell BK107.out 4).trans rfl
             have hcz35_5 : wc.cell? ⟨gb107, 5, none⟩ = some (.slice A0_5 l0_5.length c0_5) := (blk_cell BK107.out 5).trans rfl
             have hcz35_6 : wc.cell? ⟨gb107, 6, none⟩ = some (.slice A0_6 l0_6.length c0_6) := (blk_cell BK107.out 6).trans rfl
             have hfz35_0 := blk_frozen BK107.out 0
             have hfz35_1 := blk_frozen BK107.out 1
             have hfz35_2 := blk_frozen BK107.out 2
             have hfz35_3 := blk_frozen BK107.out 3
             have hfz35_4 := blk_frozen BK107.out 4
             have hfz35_5 := blk_frozen BK107.out 5
             have hfz35_6 := blk_frozen BK107.out 6
             go_wp2_with (first | (go_at_call 23; (with_reducible refine (laws_isType.calls a0_3 t109 _ A34.out).mono ?_); rintro e w' ⟨rfl, ⟨nd, rfl⟩⟩))
             go_meet
             case rel => exact ⟨_, (!t109), (by first | rfl | (simp; done) | (simp [*]; done)), H', ⟨by have := HJ1.out; have := HJ16.out; have := HJ21.out; first | omega | exact Nat.le_refl _⟩, ⟨by (with_reducible repeat (first | refine blk_drewN ?_ _ | refine blk_drew ?_ | refine blk_alloc ?_ _)); exact BK107.out⟩, ⟨by repeat (first | (with_reducible first | exact HB.out | apply below_alloc | apply pw_below_drewN | apply below_drew1 | refine below_set ?_ GE107.out) | exact HB.out)⟩⟩
            ·rw [if_neg c33] at H
             have c33b0 : (a0_0 == 13) = false := beq_eq_false_iff_ne.mpr c33
             have c33b1 : (a0_0 != 13) = true := bne_iff_ne.mpr c33
             have H' := Aside0.mk H
             clear H
             have hcz36_0 : wc.cell? ⟨gb107, 0, none⟩ = some (.int .i64 a0_0) := (blk_cell BK107.out 0).trans rfl
             have hcz36_1 : wc.cell? ⟨gb107, 1, none⟩ = some (.int .i64 a0_1) := (blk_cell BK107.out 1).trans rfl
             have hcz36_2 : wc.cell? ⟨gb107, 2, none⟩ = some (.slice A0_2 l0_2.length c0_2) := (blk_cell BK107.out 2).trans rfl
             have hcz36_3 : wc.cell? ⟨gb107, 3, none⟩ = some (.int .i64 a0_3) := (blk_cell BK107.out 3).trans rfl
             have hcz36_4 : wc.cell? ⟨gb107, 4, none⟩ = some (.int .i64 a0_4) := (blk_cell BK107.out 4).trans rfl
             have hcz36_5 : wc.cell? ⟨gb107, 5, none⟩ = some (.slice A0_5 l0_5.length c0_5) := (blk_cell BK107.out 5).trans rfl
             have hcz36_6 : wc.cell? ⟨gb107, 6, none⟩ = some (.slice A0_6 l0_6.length c0_6) := (blk_cell BK107.out 6).trans rfl
             have hfz36_0 := blk_frozen BK107.out 0
             have hfz36_1 := blk_frozen BK107.out 1
             have hfz36_2 := blk_frozen BK107.out 2
             have hfz36_3 := blk_frozen BK107.out 3
             have hfz36_4 := blk_frozen BK107.out 4
             have hfz36_5 := blk_frozen BK107.out 5
             have hfz36_6 := blk_frozen BK107.out 6
             go_wp2
             go_meet
             case rel => exact ⟨_, (false), (by first | rfl | (simp; done) | (simp [*]; done)), H', ⟨by have := HJ1.out; have := HJ16.out; have := HJ21.out; first | omega | exact Nat.le_refl _⟩, ⟨by (with_reducible repeat (first | refine blk_drewN ?_ _ | refine blk_drew ?_ | refine blk_alloc ?_ _)); exact BK107.out⟩, ⟨by repeat (first | (with_reducible first | exact HB.out | apply below_alloc | apply pw_below_drewN | apply below_drew1 | refine below_set ?_ GE107.out) | exact HB.out)⟩⟩
           ·rw [if_neg c32] at H
            have c32b0 : (a0_0 == 12) = false := beq_eq_false_iff_ne.mpr c32
            have c32b1 : (a0_0 != 12) = true := bne_iff_ne.mpr c32
            (first | rw [c32b0] | (simp only [i64_w, i32_w]; rw [c32b0]) | skip)
            replace H := Option.bind_eq_some_iff.mp H
            obtain ⟨t110, A370, H⟩ := H
            replace H : (if t110 = true then (if a0_0 = 13 then ((laws_isType.f a0_3).bind fun t111 => (laws_isRight.j3 kj21 (!t111) a0_0 a0_1 l0_2 a0_3 a0_4 l0_5 l0_6)) else (laws_isRight.j3 kj21 false a0_0 a0_1 l0_2 a0_3 a0_4 l0_5 l0_6)) else (laws_isRight.j3 kj21 true a0_0 a0_1 l0_2 a0_3 a0_4 l0_5 l0_6)) = some r := H
            have A37 := Aside0.mk A370
            clear A370
            by_cases c38 : t110 = true
            ·subst c38
             have H1 : (if a0_0 = 13 then ((laws_isType.f a0_3).bind fun t111 => (laws_isRight.j3 kj21 (!t111) a0_0 a0_1 l0_2 a0_3 a0_4 l0_5 l0_6)) else (laws_isRight.j3 kj21 false a0_0 a0_1 l0_2 a0_3 a0_4 l0_5 l0_6)) = some r := by rw [if_pos rfl] at H; exact H
             clear H
             have H := H1
             clear H1
             by_cases c39 : a0_0 = 13
             ·rw [if_pos c39] at H
              have c39b0 : (a0_0 == 13) = true := beq_iff_eq.mpr c39
              have c39b1 : (a0_0 != 13) = false := bne_eq_false_iff_eq.mpr c39
              clear c39
              replace H := Option.bind_eq_some_iff.mp H
              obtain ⟨t111, A400, H⟩ := H
              replace H : (laws_isRight.j3 kj21 (!t111) a0_0 a0_1 l0_2 a0_3 a0_4 l0_5 l0_6) = some r := H
              have A40 := Aside0.mk A400
              clear A400
              have H' := Aside0.mk H
              clear H
              have hcz41_0 : wc.cell? ⟨gb107, 0, none⟩ = some (.int .i64 a0_0) := (blk_cell BK107.out 0).trans rfl
              have hcz41_1 : wc.cell? ⟨gb107, 1, none⟩ = some (.int .i64 a0_1) := (blk_cell BK107.out 1).trans rfl
              have hcz41_2 : wc.cell? ⟨gb107, 2, none⟩ = some (.slice A0_2 l0_2.length c0_2) := (blk_cell BK107.out 2).trans rfl
              have hcz41_3 : wc.cell? ⟨gb107, 3, none⟩ = some (.int .i64 a0_3) := (blk_cell BK107.out 3).trans rfl
              have hcz41_4 : wc.cell? ⟨gb107, 4, none⟩ = some (.int .i64 a0_4) := (blk_cell BK107.out 4).trans rfl
              have hcz41_5 : wc.cell? ⟨gb107, 5, none⟩ = some (.slice A0_5 l0_5.length c0_5) := (blk_cell BK107.out 5).trans rfl
              have hcz41_6 : wc.cell? ⟨gb107, 6, none⟩ = some (.slice A0_6 l0_6.length c0_6) := (blk_cell BK107.out 6).trans rfl
              have hfz41_0 := blk_frozen BK107.out 0
              have hfz41_1 := blk_frozen BK107.out 1
              have hfz41_2 := blk_frozen BK107.out 2
              have hfz41_3 := blk_frozen BK107.out 3
              have hfz41_4 := blk_frozen BK107.out 4
              have hfz41_5 := blk_frozen BK107.out 5
              have hfz41_6 := blk_frozen BK107.out 6
              go_wp2_with (first | (go_at_call 23; (with_reducible refine (laws_isType.calls a0_4 true _ A37.out).mono ?_); rintro e w' ⟨rfl, ⟨nd, rfl⟩⟩) | (go_at_call 23; (with_reducible refine (laws_isType.calls a0_3 t111 _ A40.out).mono ?_); rintro e w' ⟨rfl, ⟨nd, rfl⟩⟩))
              go_meet
              case rel => exact ⟨_, (!t111), (by first | rfl | (simp; done) | (simp [*]; done)), H', ⟨by have := HJ1.out; have := HJ16.out; have := HJ21.out; first | omega | exact Nat.le_refl _⟩, ⟨by (with_reducible repeat (first | refine blk_drewN ?_ _ | refine blk_drew ?_ | refine blk_alloc ?_ _)); exact BK107.out⟩, ⟨by repeat (first | (with_reducible first | exact HB.out | apply below_alloc | apply pw_below_drewN | apply below_drew1 | refine below_set ?_ GE107.out) | exact HB.out)⟩⟩
             ·rw [if_neg c39] at H
              have c39b0 : (a0_0 == 13) = false := beq_eq_false_iff_ne.mpr c39
              have c39b1 : (a0_0 != 13) = true := bne_iff_ne.mpr c39
              have H' := Aside0.mk H
              clear H
              have hcz42_0 : wc.cell? ⟨gb107, 0, none⟩ = some (.int .i64 a0_0) := (blk_cell BK107.out 0).trans rfl
              have hcz42_1 : wc.cell? ⟨gb107, 1, none⟩ = some (.int .i64 a0_1) := (blk_cell BK107.out 1).trans rfl
              have hcz42_2 : wc.cell? ⟨gb107, 2, none⟩ = some (.slice A0_2 l0_2.length c0_2) := (blk_cell BK107.out 2).trans rfl
              have hcz42_3 : wc.cell? ⟨gb107, 3, none⟩ = some (.int .i64 a0_3) := (blk_cell BK107.out 3).trans rfl
              have hcz42_4 : wc.cell? ⟨gb107, 4, none⟩ = some (.int .i64 a0_4) := (blk_cell BK107.out 4).trans rfl
              have hcz42_5 : wc.cell? ⟨gb107, 5, none⟩ = some (.slice A0_5 l0_5.length c0_5) := (blk_cell BK107.out 5).trans rfl
              have hcz42_6 : wc.cell? ⟨gb107, 6, none⟩ = some (.slice A0_6 l0_6.length c0_6) := (blk_cell BK107.out 6).trans rfl
              have hfz42_0 := blk_frozen BK107.out 0
              have hfz42_1 := blk_frozen BK107.out 1
              have hfz42_2 := blk_frozen BK107.out 2
              have hfz42_3 := blk_frozen BK107.out 3
              have hfz42_4 := blk_frozen BK107.out 4
              have hfz42_5 := blk_frozen BK107.out 5
              have hfz42_6 := blk_frozen BK107.out 6
              go_wp2_with (first | (go_at_call 23; (with_reducible refine (laws_isType.calls a0_4 true _ A37.out).mono ?_); rintro e w' ⟨rfl, ⟨nd, rfl⟩⟩))
              go_meet
              case rel => exact ⟨_, (false), (by first | rfl | (simp; done) | (simp [*]; done)), H', ⟨by have := HJ1.out; have := HJ16.out; have := HJ21.out; first | omega | exact Nat.le_refl _⟩, ⟨by (with_reducible repeat (first | refine blk_drewN ?_ _ | refine blk_drew ?_ | refine blk_alloc ?_ _)); exact BK107.out⟩, ⟨by repeat (first | (with_reducible first | exact HB.out | apply below_alloc | apply pw_below_drewN | apply below_drew1 | refine below_set ?_ GE107.out) | exact HB.out)⟩⟩
            ·replace c38 := Bool.eq_false_iff.mpr c38
             subst c38
             have H1 : (laws_isRight.j3 kj21 true a0_0 a0_1 l0_2 a0_3 a0_4 l0_5 l0_6) = some r := by rw [if_neg (show ¬ (false = true) by decide)] at H; exact H
             clear H
             have H := H1
             clear H1
             have H' := Aside0.mk H
             clear H
             have hcz43_0 : wc.cell? ⟨gb107, 0, none⟩ = some (.int .i64 a0_0) := (blk_cell BK107.out 0).trans rfl
             have hcz43_1 : wc.cell? ⟨gb107, 1, none⟩ = some (.int .i64 a0_1) := (blk_cell BK107.out 1).trans rfl
             have hcz43_2 : wc.cell? ⟨gb107, 2, none⟩ = some (.slice A0_2 l0_2.length c0_2) := (blk_cell BK107.out 2).trans rfl
             have hcz43_3 : wc.cell? ⟨gb107, 3, none⟩ = some (.int .i64 a0_3) := (blk_cell BK107.out 3).trans rfl
             have hcz43_4 : wc.cell? ⟨gb107, 4, none⟩ = some (.int .i64 a0_4) := (blk_cell BK107.out 4).trans rfl
             have hcz43_5 : wc.cell? ⟨gb107, 5, none⟩ = some (.slice A0_5 l0_5.length c0_5) := (blk_cell BK107.out 5).trans rfl
             have hcz43_6 : wc.cell? ⟨gb107, 6, none⟩ = some (.slice A0_6 l0_6.length c0_6) := (blk_cell BK107.out 6).trans rfl
             have hfz43_0 := blk_frozen BK107.out 0
             have hfz43_1 := blk_frozen BK107.out 1
             have hfz43_2 := blk_frozen BK107.out 2
             have hfz43_3 := blk_frozen BK107.out 3
             have hfz43_4 := blk_frozen BK107.out 4
             have hfz43_5 := blk_frozen BK107.out 5
             have hfz43_6 := blk_frozen BK107.out 6
             go_wp2_with (first | (go_at_call 23; (with_reducible refine (laws_isType.calls a0_4 false _ A37.out).mono ?_); rintro e w' ⟨rfl, ⟨nd, rfl⟩⟩))
             go_meet
             case rel => exact ⟨_, (true), (by first | rfl | (simp; done) | (simp [*]; done)), H', ⟨by have := HJ1.out; have := HJ16.out; have := HJ21.out; first | omega | exact Nat.le_refl _⟩, ⟨by (with_reducible repeat (first | refine blk_drewN ?_ _ | refine blk_drew ?_ | refine blk_alloc ?_ _)); exact BK107.out⟩, ⟨by repeat (first | (with_reducible first | exact HB.out | apply below_alloc | apply pw_below_drewN | apply below_drew1 | refine below_set ?_ GE107.out) | exact HB.out)⟩⟩
          case rest =>
           clear HC31
           try clear c1
           try clear c2
           try clear p2
           try clear c3
           try clear c5
           try clear c6
           try clear c6b0
           try clear c6b1
           try clear c7
           try clear c7b0
           try clear c7b1
           try clear c7b2
           try clear c8
           try clear c8b0
           try clear c8b1
           try clear c10
           try clear c12
           try clear c12b0
           try clear c12b1
           try clear c16
           try clear c18
           try clear c18b0
           try clear c21
           try clear c23
           try clear c23b0
           try clear c23b1
           try clear c24
           try clear c24b0
           try clear c24b1
           try clear c24b2
           try clear c25
           try clear c25b0
           try clear c25b1
           try clear c30
           try clear c32
           try clear c32b0
           try clear c32b1
           try clear c33
           try clear c33b0
           try clear c33b1
           try clear c38
           try clear c39
           try clear c39b0
           try clear c39b1
           try clear hcz10_0
           try clear hcz10_1
           try clear hcz10_2
           try clear hcz10_3
           try clear hcz10_4
           try clear hcz10_5
           try clear hcz10_6
           try clear hcz11_0
           try clear hcz11_1
           try clear hcz11_2
           try clear hcz11_3
           try clear hcz11_4
           try clear hcz11_5
           try clear hcz11_6
           try clear hcz13_0
           try clear hcz13_1
           try clear hcz13_2
           try clear hcz13_3
           try clear hcz13_4
           try clear hcz13_5
           try clear hcz13_6
           try clear hcz14_0
           try clear hcz14_1
           try clear hcz14_2
           try clear hcz14_3
           try clear hcz14_4
           try clear hcz14_5
           try clear hcz14_6
           try clear hcz15_0
           try clear hcz15_1
           try clear hcz15_2
           try clear hcz15_3
           try clear hcz15_4
           try clear hcz15_5
           try clear hcz15_6
           try clear hcz19_0
           try clear hcz19_1
           try clear hcz19_2
           try clear hcz19_3
           try clear hcz19_4
           try clear hcz19_5
           try clear hcz19_6
           try clear hcz20_0
           try clear hcz20_1
           try clear hcz20_2
           try clear hcz20_3
           try clear hcz20_4
           try clear hcz20_5
           try clear hcz20_6
           try clear hcz26_0
           try clear hcz26_1
           try clear hcz26_2
           try clear hcz26_3
           try clear hcz26_4
           try clear hcz26_5
           try clear hcz26_6
           try clear hcz27_0
           try clear hcz27_1
           try clear hcz27_2
           try clear hcz27_3
           try clear hcz27_4
           try clear hcz27_5
           try clear hcz27_6
           try clear hcz28_0
           try clear hcz28_1
           try clear hcz28_2
           try clear hcz28_3
           try clear hcz28_4
           try clear hcz28_5
           try clear hcz28_6
           try clear hcz29_0
           try clear hcz29_1
           try clear hcz29_2
           try clear hcz29_3
           try clear hcz29_4
           try clear hcz29_5
           try clear hcz29_6
           try clear hcz35_0
           try clear hcz35_1
           try clear hcz35_2
           try clear hcz35_3
           try clear hcz35_4
           try clear hcz35_5
           try clear hcz35_6
           try clear hcz36_0
           try clear hcz36_1
           try clear hcz36_2
           try clear hcz36_3
           try clear hcz36_4
           try clear hcz36_5
           try clear hcz36_6
           try clear hcz41_0
           try clear hcz41_1
           try clear hcz41_2
           try clear hcz41_3
           try clear hcz41_4
           try clear hcz41_5
           try clear hcz41_6
           try clear hcz42_0
           try clear hcz42_1
           try clear hcz42_2
           try clear hcz42_3
           try clear hcz42_4
           try clear hcz42_5
           try clear hcz42_6
           try clear hcz43_0
           try clear hcz43_1
           try clear hcz43_2
           try clear hcz43_3
           try clear hcz43_4
           try clear hcz43_5
           try clear hcz43_6
           try clear hcz9_0
           try clear hcz9_1
           try clear hcz9_2
           try clear hcz9_3
           try clear hcz9_4
           try clear hcz9_5
           try clear hcz9_6
           try clear hfz10_0
           try clear hfz10_1
           try clear hfz10_2
           try clear hfz10_3
           try clear hfz10_4
           try clear hfz10_5
           try clear hfz10_6
           try clear hfz11_0
           try clear hfz11_1
           try clear hfz11_2
           try clear hfz11_3
           try clear hfz11_4
           try clear hfz11_5
           try clear hfz11_6
           try clear hfz13_0
           try clear hfz13_1
           try clear hfz13_2
           try clear hfz13_3
           try clear hfz13_4
           try clear hfz13_5
           try clear hfz13_6
           try clear hfz14_0
           try clear hfz14_1
           try clear hfz14_2
           try clear hfz14_3
           try clear hfz14_4
           try clear hfz14_5
           try clear hfz14_6
           try clear hfz15_0
           try clear hfz15_1
           try clear hfz15_2
           try clear hfz15_3
           try clear hfz15_4
           try clear hfz15_5
           try clear hfz15_6
           try clear hfz19_0
           try clear hfz19_1
           try clear hfz19_2
           try clear hfz19_3
           try clear hfz19_4
           try clear hfz19_5
           try clear hfz19_6
           try clear hfz20_0
           try clear hfz20_1
           try clear hfz20_2
           try clear hfz20_3
           try clear hfz20_4
           try clear hfz20_5
           try clear hfz20_6
           try clear hfz26_0
           try clear hfz26_1
           try clear hfz26_2
           try clear hfz26_3
           try clear hfz26_4
           try clear hfz26_5
           try clear hfz26_6
           try clear hfz27_0
           try clear hfz27_1
           try clear hfz27_2
           try clear hfz27_3
           try clear hfz27_4
           try clear hfz27_5
           try clear hfz27_6
           try clear hfz28_0
           try clear hfz28_1
           try clear hfz28_2
           try clear hfz28_3
           try clear hfz28_4
           try clear hfz28_5
           try clear hfz28_6
           try clear hfz29_0
           try clear hfz29_1
           try clear hfz29_2
           try clear hfz29_3
           try clear hfz29_4
           try clear hfz29_5
           try clear hfz29_6
           try clear hfz35_0
           try clear hfz35_1
           try clear hfz35_2
           try clear hfz35_3
           try clear hfz35_4
           try clear hfz35_5
           try clear hfz35_6
           try clear hfz36_0
           try clear hfz36_1
           try clear hfz36_2
           try clear hfz36_3
           try clear hfz36_4
           try clear hfz36_5
           try clear hfz36_6
           try clear hfz41_0
           try clear hfz41_1
           try clear hfz41_2
           try clear hfz41_3
           try clear hfz41_4
           try clear hfz41_5
           try clear hfz41_6
           try clear hfz42_0
           try clear hfz42_1
           try clear hfz42_2
           try clear hfz42_3
           try clear hfz42_4
           try clear hfz42_5
           try clear hfz42_6
           try clear hfz43_0
           try clear hfz43_1
           try clear hfz43_2
           try clear hfz43_3
           try clear hfz43_4
           try clear hfz43_5
           try clear hfz43_6
           try clear hfz9_0
           try clear hfz9_1
           try clear hfz9_2
           try clear hfz9_3
           try clear hfz9_4
           try clear hfz9_5
           try clear hfz9_6
           try clear p2
           obtain ⟨kq, x81_30, rfl, HA, HJ30, BK107, HB⟩ := hcut
           cases kq with
           | zero => exact absurd HA.out (by simp [laws_isRight.j3])
           | succ kj30 =>
            have H := HA.out
            clear HA
            simp only [laws_isRight.j3] at H
            by_cases c44 : x81_30 = true
            ·subst c44
             have H1 : (some false) = some r := by rw [if_pos rfl] at H; exact H
             clear H
             have H := H1
             clear H1
             obtain rfl := Option.some.inj H
             go_wp2
             go_ret
             exact ⟨by first | rfl | (simp [Nat.add_zero] <;> rfl) | (simp [*, Nat.add_zero] <;> rfl), by repeat (first | (with_reducible first | exact HB.out | apply below_alloc | apply pw_below_drewN | apply below_drew1 | refine below_set ?_ GE107.out) | exact HB.out)⟩
            ·replace c44 := Bool.eq_false_iff.mpr c44
             subst c44
             have H1 : (laws_isRight.l0 kj30 0 a0_0 a0_1 l0_2 a0_3 a0_4 l0_5 l0_6) = some r := by rw [if_neg (show ¬ (false = true) by decide)] at H; exact H
             clear H
             have H := H1
             clear H1
             have H' := Aside0.mk H
             clear H
             go_wp2
             go_loopg [3] kj30 (fun kq v3 w' => ∃ (x3_5 : Int), v3 = .int .i64 x3_5 ∧ Aside0 (laws_isRight.l0 kq x3_5 a0_0 a0_1 l0_2 a0_3 a0_4 l0_5 l0_6 = some r) ∧ Aside0 (kq ≤ kj30) ∧ Aside0 (w'.heap[gb107]? = some (.cells #[.int .i64 a0_0, .int .i64 a0_1, (.slice A0_2 l0_2.length c0_2), .int .i64 a0_3, .int .i64 a0_4, (.slice A0_5 l0_5.length c0_5), (.slice A0_6 l0_6.length c0_6)] 28 (0, 0))) ∧ Aside0 (Below w.heap.size w w'))
             case atStart => exact ⟨(0), (by first | rfl | (simp; done) | (simp [*]; done)), H', ⟨Nat.le_refl _⟩, ⟨by (with_reducible repeat (first | refine blk_drewN ?_ _ | refine blk_drew ?_ | refine blk_alloc ?_ _)); exact BK107.out⟩, ⟨by repeat (first | (with_reducible first | exact HB.out | apply below_alloc | apply pw_below_drewN | apply below_drew1 | refine below_set ?_ GE107.out) | exact HB.out)⟩⟩
             case round =>
              clear H'
              try clear c1
              try clear c2
              try clear p2
              try clear c3
              try clear c4
              try clear c5
              try clear c6
              try clear c6b0
              try clear c6b1
              try clear c7
              try clear c7b0
              try clear c7b1
              try clear c7b2
              try clear c8
              try clear c8b0
              try clear c8b1
              try clear c10
              try clear c12
              try clear c12b0
              try clear c12b1
              try clear c16
              try clear c18
              try clear c18b0
              try clear c21
              try clear c23
              try clear c23b0
              try clear c23b1
              try clear c24
              try clear c24b0
              try clear c24b1
              try clear c24b2
              try clear c25
              try clear c25b0
              try clear c25b1
              try clear c30
              try clear c32
              try clear c32b0
              try clear c32b1
              try clear c33
              try clear c33b0
              try clear c33b1
              try clear c38
              try clear c39
              try clear c39b0
              try clear c39b1
              try clear c44
              try clear hcz10_0
              try clear hcz10_1
              try clear hcz10_2
              try clear hcz10_3
              try clear hcz10_4
              try clear hcz10_5
              try clear hcz10_6
              try clear hcz11_0
              try clear hcz11_1
              try clear hcz11_2
              try clear hcz11_3
              try clear hcz11_4
              try clear hcz11_5
              try clear hcz11_6
              try clear hcz13_0
              try clear hcz13_1
              try clear hcz13_2
              try clear hcz13_3
              try clear hcz13_4
              try clear hcz13_5
              try clear hcz13_6
              try clear hcz14_0
              try clear hcz14_1
              try clear hcz14_2
              try clear hcz14_3
              try clear hcz14_4
              try clear hcz14_5
              try clear hcz14_6
              try clear hcz15_0
              try clear hcz15_1
              try clear hcz15_2
              try clear hcz15_3
              try clear hcz15_4
              try clear hcz15_5
              try clear hcz15_6
              try clear hcz19_0
              try clear hcz19_1
              try clear hcz19_2
              try clear hcz19_3
              try clear hcz19_4
              try clear hcz19_5
              try clear hcz19_6
              try clear hcz20_0
              try clear hcz20_1
              try clear hcz20_2
              try clear hcz20_3
              try clear hcz20_4
              try clear hcz20_5
              try clear hcz20_6
              try clear hcz26_0
              try clear hcz26_1
              try clear hcz26_2
              try clear hcz26_3
              try clear hcz26_4
              try clear hcz26_5
              try clear hcz26_6
              try clear hcz27_0
              try clear hcz27_1
              try clear hcz27_2
              try clear hcz27_3
              try clear hcz27_4
              try clear hcz27_5
              try clear hcz27_6
              try clear hcz28_0
              try clear hcz28_1
              try clear hcz28_2
              try clear hcz28_3
              try clear hcz28_4
              try clear hcz28_5
              try clear hcz28_6
              try clear hcz29_0
              try clear hcz29_1
              try clear hcz29_2
              try clear hcz29_3
              try clear hcz29_4
              try clear hcz29_5
              try clear hcz29_6
              try clear hcz35_0
              try clear hcz35_1
              try clear hcz35_2
              try clear hcz35_3
              try clear hcz35_4
              try clear hcz35_5
              try clear hcz35_6
              try clear hcz36_0
              try clear hcz36_1
              try clear hcz36_2
              try clear hcz36_3
              try clear hcz36_4
              try clear hcz36_5
              try clear hcz36_6
              try clear hcz41_0
              try clear hcz41_1
              try clear hcz41_2
              try clear hcz41_3
              try clear hcz41_4
              try clear hcz41_5
              try clear hcz41_6
              try clear hcz42_0
              try clear hcz42_1
              try clear hcz42_2
              try clear hcz42_3
              try clear hcz42_4
              try clear hcz42_5
              try clear hcz42_6
              try clear hcz43_0
              try clear hcz43_1
              try clear hcz43_2
              try clear hcz43_3
              try clear hcz43_4
              try clear hcz43_5
              try clear hcz43_6
              try clear hcz9_0
              try clear hcz9_1
              try clear hcz9_2
              try clear hcz9_3
              try clear hcz9_4
              try clear hcz9_5
              try clear hcz9_6
              try clear hfz10_0
              try clear hfz10_1
              try clear hfz10_2
              try clear hfz10_3
              try clear hfz10_4
              try clear hfz10_5
              try clear hfz10_6
              try clear hfz11_0
              try clear hfz11_1
              try clear hfz11_2
              try clear hfz11_3
              try clear hfz11_4
              try clear hfz11_5
              try clear hfz11_6
              try clear hfz13_0
              try clear hfz13_1
              try clear hfz13_2
              try clear hfz13_3
              try clear hfz13_4
              try clear hfz13_5
              try clear hfz13_6
              try clear hfz14_0
              try clear hfz14_1
              try clear hfz14_2
              try clear hfz14_3
              try clear hfz14_4
              try clear hfz14_5
              try clear hfz14_6
              try clear hfz15_0
              try clear hfz15_1
              try clear hfz15_2
              try clear hfz15_3
              try clear hfz15_4
              try clear hfz15_5
              try clear hfz15_6
              try clear hfz19_0
              try clear hfz19_1
              try clear hfz19_2
              try clear hfz19_3
              try clear hfz19_4
              try clear hfz19_5
              try clear hfz19_6
              try clear hfz20_0
              try clear hfz20_1
              try clear hfz20_2
              try clear hfz20_3
              try clear hfz20_4
              try clear hfz20_5
              try clear hfz20_6
              try clear hfz26_0
              try clear hfz26_1
              try clear hfz26_2
              try clear hfz26_3
              try clear hfz26_4
              try clear hfz26_5
              try clear hfz26_6
              try clear hfz27_0
              try clear hfz27_1
              try clear hfz27_2
              try clear hfz27_3
              try clear hfz27_4
              try clear hfz27_5
              try clear hfz27_6
              try clear hfz28_0
              try clear hfz28_1
              try clear hfz28_2
              try clear hfz28_3
              try clear hfz28_4
              try clear hfz28_5
              try clear hfz28_6
              try clear hfz29_0
              try clear hfz29_1
              try clear hfz29_2
              try clear hfz29_3
              try clear hfz29_4
              try clear hfz29_5
              try clear hfz29_6
              try clear hfz35_0
              try clear hfz35_1
              try clear hfz35_2
              try clear hfz35_3
              try clear hfz35_4
              try clear hfz35_5
              try clear hfz35_6
              try clear hfz36_0
              try clear hfz36_1
              try clear hfz36_2
              try clear hfz36_3
              try clear hfz36_4
              try clear hfz36_5
              try clear hfz36_6
              try clear hfz41_0
              try clear hfz41_1
              try clear hfz41_2
              try clear hfz41_3
              try clear hfz41_4
              try clear hfz41_5
              try clear hfz41_6
              try clear hfz42_0
              try clear hfz42_1
              try clear hfz42_2
              try clear hfz42_3
              try clear hfz42_4
              try clear hfz42_5
              try clear hfz42_6
              try clear hfz43_0
              try clear hfz43_1
              try clear hfz43_2
              try clear hfz43_3
              try clear hfz43_4
              try clear hfz43_5
              try clear hfz43_6
              try clear hfz9_0
              try clear hfz9_1
              try clear hfz9_2
              try clear hfz9_3
              try clear hfz9_4
              try clear hfz9_5
              try clear hfz9_6
              try clear p2
              obtain ⟨x3_5, rfl, HA, HK5, BK107, HB⟩ := hrel
              cases gk with
              | zero => exact absurd HA.out (by simp [laws_isRight.l0])
              | succ k5 =>
               have H := HA.out
               clear HA
               simp only [laws_isRight.l0] at H
               by_cases c45 : x3_5 < (l0_6.length : Int)
               ·rw [if_pos c45] at H
                have c45b0 : decide (x3_5 < (l0_6.length : Int)) = true := decide_eq_true c45
                clear c45
                have HC46 := Aside0.mk H
                clear H
                have hcz47_0 : wr.cell? ⟨gb107, 0, none⟩ = some (.int .i64 a0_0) := (blk_cell BK107.out 0).trans rfl
                have hcz47_1 : wr.cell? ⟨gb107, 1, none⟩ = some (.int .i64 a0_1) := (blk_cell BK107.out 1).trans rfl
                have hcz47_2 : wr.cell? ⟨gb107, 2, none⟩ = some (.slice A0_2 l0_2.length c0_2) := (blk_cell BK107.out 2).trans rfl
                have hcz47_3 : wr.cell? ⟨gb107, 3, none⟩ = some (.int .i64 a0_3) := (blk_cell BK107.out 3).trans rfl
                have hcz47_4 : wr.cell? ⟨gb107, 4, none⟩ = some (.int .i64 a0_4) := (blk_cell BK107.out 4).trans rfl
                have hcz47_5 : wr.cell? ⟨gb107, 5, none⟩ = some (.slice A0_5 l0_5.length c0_5) := (blk_cell BK107.out 5).trans rfl
                have hcz47_6 : wr.cell? ⟨gb107, 6, none⟩ = some (.slice A0_6 l0_6.length c0_6) := (blk_cell BK107.out 6).trans rfl
                have hfz47_0 := blk_frozen BK107.out 0
                have hfz47_1 := blk_frozen BK107.out 1
                have hfz47_2 := blk_frozen BK107.out 2
                have hfz47_3 := blk_frozen BK107.out 3
                have hfz47_4 := blk_frozen BK107.out 4
                have hfz47_5 := blk_frozen BK107.out 5
                have hfz47_6 := blk_frozen BK107.out 6
                go_upto_region 13 with (fail)
                go_cut [98] (fun v98 wc => ∃ (kq : Nat) (x98_45 : Bool), v98 = .bool x98_45 ∧ Aside0 (laws_isRight.j5 kq x3_5 a0_4 x98_45 a0_0 a0_1 l0_2 a0_3 a0_4 l0_5 l0_6 = some r) ∧ Aside0 (kq ≤ k5) ∧ Aside0 (wc.heap[gb107]? = some (.cells #[.int .i64 a0_0, .int .i64 a0_1, (.slice A0_2 l0_2.length c0_2), .int .i64 a0_3, .int .i64 a0_4, (.slice A0_5 l0_5.length c0_5), (.slice A0_6 l0_6.length c0_6)] 28 (0, 0))) ∧ Aside0 (Below w.heap.size w wc))
                case first =>
                 have H := HC46.out
                 clear HC46
                 by_cases c48 : a0_0 = 13
                 ·rw [if_pos c48] at H
                  have c48b0 : (a0_0 == 13) = true := beq_iff_eq.mpr c48
                  have c48b1 : (a0_0 != 13) = false := bne_eq_false_iff_eq.mpr c48
                  clear c48
                  (first | rw [c48b0] | (simp only [i64_w, i32_w]; rw [c48b0]) | skip)
                  have H' := Aside0.mk H
                  clear H
                  have hcz49_0 : wr.cell? ⟨gb107, 0, none⟩ = some (.int .i64 a0_0) := (blk_cell BK107.out 0).trans rfl
                  have hcz49_1 : wr.cell? ⟨gb107, 1, none⟩ = some (.int .i64 a0_1) := (blk_cell BK107.out 1).trans rfl
                  have hcz49_2 : wr.cell? ⟨gb107, 2, none⟩ = some (.slice A0_2 l0_2.length c0_2) := (blk_cell BK107.out 2).trans rfl
                  have hcz49_3 : wr.cell? ⟨gb107, 3, none⟩ = some (.int .i64 a0_3) := (blk_cell BK107.out 3).trans rfl
                  have hcz49_4 : wr.cell? ⟨gb107, 4, none⟩ = some (.int .i64 a0_4) := (blk_cell BK107.out 4).trans rfl
                  have hcz49_5 : wr.cell? ⟨gb107, 5, none⟩ = some (.slice A0_5 l0_5.length c0_5) := (blk_cell BK107.out 5).trans rfl
                  have hcz49_6 : wr.cell? ⟨gb107, 6, none⟩ = some (.slice A0_6 l0_6.length c0_6) := (blk_cell BK107.out 6).trans rfl
                  have hfz49_0 := blk_frozen BK107.out 0
                  have hfz49_1 := blk_frozen BK107.out 1
                  have hfz49_2 := blk_frozen BK107.out 2
                  have hfz49_3 := blk_frozen BK107.out 3
                  have hfz49_4 := blk_frozen BK107.out 4
                  have hfz49_5 := blk_frozen BK107.out 5
                  have hfz49_6 := blk_frozen BK107.out 6
                  go_wp2
                  go_meet
                  case rel => exact ⟨_, (((Int.tmod x3_5 2) == 0)), (by first | rfl | (simp; done) | (simp [*]; done)), H', ⟨by have := HJ1.out; have := HJ16.out; have := HJ21.out; have := HJ30.out; have := HK5.out; first | omega | exact Nat.le_refl _⟩, ⟨by (with_reducible repeat (first | refine blk_drewN ?_ _ | refine blk_drew ?_ | refine blk_alloc ?_ _)); exact BK107.out⟩, ⟨by repeat (first | (with_reducible first | exact HB.out | apply below_alloc | apply pw_below_drewN | apply below_drew1 | refine below_set ?_ GE107.out) | exact HB.out)⟩⟩
                 ·rw [if_neg c48] at H
                  have c48b0 : (a0_0 == 13) = false := beq_eq_false_iff_ne.mpr c48
                  have c48b1 : (a0_0 != 13) = true := bne_iff_ne.mpr c48
                  (first | rw [c48b0] | (simp only [i64_w, i32_w]; rw [c48b0]) | skip)
                  have H' := Aside0.mk H
                  clear H
                  have hcz50_0 : wr.cell? ⟨gb107, 0, none⟩ = some (.int .i64 a0_0) := (blk_cell BK107.out 0).trans rfl
                  have hcz50_1 : wr.cell? ⟨gb107, 1, none⟩ = some (.int .i64 a0_1) := (blk_cell BK107.out 1).trans rfl
                  have hcz50_2 : wr.cell? ⟨gb107, 2, none⟩ = some (.slice A0_2 l0_2.length c0_2) := (blk_cell BK107.out 2).trans rfl
                  have hcz50_3 : wr.cell? ⟨gb107, 3, none⟩ = some (.int .i64 a0_3) := (blk_cell BK107.out 3).trans rfl
                  have hcz50_4 : wr.cell? ⟨gb107, 4, none⟩ = some (.int .i64 a0_4) := (blk_cell BK107.out 4).trans rfl
                  have hcz50_5 : wr.cell? ⟨gb107, 5, none⟩ = some (.slice A0_5 l0_5.length c0_5) := (blk_cell BK107.out 5).trans rfl
                  have hcz50_6 : wr.cell? ⟨gb107, 6, none⟩ = some (.slice A0_6 l0_6.length c0_6) := (blk_cell BK107.out 6).trans rfl
                  have hfz50_0 := blk_frozen BK107.out 0
                  have hfz50_1 := blk_frozen BK107.out 1
                  have hfz50_2 := blk_frozen BK107.out 2
                  have hfz50_3 := blk_frozen BK107.out 3
                  have hfz50_4 := blk_frozen BK107.out 4
                  have hfz50_5 := blk_frozen BK107.out 5
                  have hfz50_6 := blk_frozen BK107.out 6
                  go_wp2
                  go_meet
                  case rel => exact ⟨_, (false), (by first | rfl | (simp; done) | (simp [*]; done)), H', ⟨by have := HJ1.out; have := HJ16.out; have := HJ21.out; have := HJ30.out; have := HK5.out; first | omega | exact Nat.le_refl _⟩, ⟨by (with_reducible repeat (first | refine blk_drewN ?_ _ | refine blk_drew ?_ | refine blk_alloc ?_ _)); exact BK107.out⟩, ⟨by repeat (first | (with_reducible first | exact HB.out | apply below_alloc | apply pw_below_drewN | apply below_drew1 | refine below_set ?_ GE107.out) | exact HB.out)⟩⟩
                case rest =>
                 clear HC46
                 try clear c1
                 try clear c2
                 try clear p2
                 try clear c3
                 try clear c4
                 try clear c5
                 try clear c6
                 try clear c6b0
                 try clear c6b1
                 try clear c7
                 try clear c7b0
                 try clear c7b1
                 try clear c7b2
                 try clear c8
                 try clear c8b0
                 try clear c8b1
                 try clear c10
                 try clear c12
                 try clear c12b0
                 try clear c12b1
                 try clear c16
                 try clear c18
                 try clear c18b0
                 try clear c21
                 try clear c23
                 try clear c23b0
                 try clear c23b1
                 try clear c24
                 try clear c24b0
                 try clear c24b1
                 try clear c24b2
                 try clear c25
                 try clear c25b0
                 try clear c25b1
                 try clear c30
                 try clear c32
                 try clear c32b0
                 try clear c32b1
                 try clear c33
                 try clear c33b0
                 try clear c33b1
                 try clear c38
                 try clear c39
                 try clear c39b0
                 try clear c39b1
                 try clear c44
                 try clear c45
                 try clear c45b0
                 try clear c48
                 try clear c48b0
                 try clear c48b1
                 try clear hcz10_0
                 try clear hcz10_1
                 try clear hcz10_2
                 try clear hcz10_3
                 try clear hcz10_4
                 try clear hcz10_5
                 try clear hcz10_6
                 try clear hcz11_0
                 try clear hcz11_1
                 try clear hcz11_2
                 try clear hcz11_3
                 try clear hcz11_4
                 try clear hcz11_5
                 try clear hcz11_6
                 try clear hcz13_0
                 try clear hcz13_1
                 try clear hcz13_2
                 try clear hcz13_3
                 try clear hcz13_4
                 try clear hcz13_5
                 try clear hcz13_6
                 try clear hcz14_0
                 try clear hcz14_1
                 try clear hcz14_2
                 try clear hcz14_3
                 try clear hcz14_4
                 try clear hcz14_5
                 try clear hcz14_6
                 try clear hcz15_0
                 try clear hcz15_1
                 try clear hcz15_2
                 try clear hcz15_3
                 try clear hcz15_4
                 try clear hcz15_5
                 try clear hcz15_6
                 try clear hcz19_0
                 try clear hcz19_1
                 try clear hcz19_2
                 try clear hcz19_3
                 try clear hcz19_4
                 try clear hcz19_5
                 try clear hcz19_6
                 try clear hcz20_0
                 try clear hcz20_1
                 try clear hcz20_2
                 try clear hcz20_3
                 try clear hcz20_4
                 try clear hcz20_5
                 try clear hcz20_6
                 try clear hcz26_0
                 try clear hcz26_1
                 try clear hcz26_2
                 try clear hcz26_3
                 try clear hcz26_4
                 try clear hcz26_5
                 try clear hcz26_6
                 try clear hcz27_0
                 try clear hcz27_1
                 try clear hcz27_2
                 try clear hcz27_3
                 try clear hcz27_4
                 try clear hcz27_5
                 try clear hcz27_6
                 try clear hcz28_0
                 try clear hcz28_1
                 try clear hcz28_2
                 try clear hcz28_3
                 try clear hcz28_4
                 try clear hcz28_5
                 try clear hcz28_6
                 try clear hcz29_0
                 try clear hcz29_1
                 try clear hcz29_2
                 try clear hcz29_3
                 try clear hcz29_4
                 try clear hcz29_5
                 try clear hcz29_6
                 try clear hcz35_0
                 try clear hcz35_1
                 try clear hcz35_2
                 try clear hcz35_3
                 try clear hcz35_4
                 try clear hcz35_5
                 try clear hcz35_6
                 try clear hcz36_0
                 try clear hcz36_1
                 try clear hcz36_2
                 try clear hcz36_3
                 try clear hcz36_4
                 try clear hcz36_5
                 try clear hcz36_6
                 try clear hcz41_0
                 try clear hcz41_1
                 try clear hcz41_2
                 try clear hcz41_3
                 try clear hcz41_4
                 try clear hcz41_5
                 try clear hcz41_6
                 try clear hcz42_0
                 try clear hcz42_1
                 try clear hcz42_2
                 try clear hcz42_3
                 try clear hcz42_4
                 try clear hcz42_5
                 try clear hcz42_6
                 try clear hcz43_0
                 try clear hcz43_1
                 try clear hcz43_2
                 try clear hcz43_3
                 try clear hcz43_4
                 try clear hcz43_5
                 try clear hcz43_6
                 try clear hcz47_0
                 try clear hcz47_1
                 try clear hcz47_2
                 try clear hcz47_3
                 try clear hcz47_4
                 try clear hcz47_5
                 try clear hcz47_6
                 try clear hcz49_0
                 try clear hcz49_1
                 try clear hcz49_2
                 try clear hcz49_3
                 try clear hcz49_4
                 try clear hcz49_5
                 try clear hcz49_6
                 try clear hcz50_0
                 try clear hcz50_1
                 try clear hcz50_2
                 try clear hcz50_3
                 try clear hcz50_4
                 try clear hcz50_5
                 try clear hcz50_6
                 try clear hcz9_0
                 try clear hcz9_1
                 try clear hcz9_2
                 try clear hcz9_3
                 try clear hcz9_4
                 try clear hcz9_5
                 try clear hcz9_6
                 try clear hfz10_0
                 try clear hfz10_1
                 try clear hfz10_2
                 try clear hfz10_3
                 try clear hfz10_4
                 try clear hfz10_5
                 try clear hfz10_6
                 try clear hfz11_0
                 try clear hfz11_1
                 try clear hfz11_2
                 try clear hfz11_3
                 try clear hfz11_4
                 try clear hfz11_5
                 try clear hfz11_6
                 try clear hfz13_0
                 try clear hfz13_1
                 try clear hfz13_2
                 try clear hfz13_3
                 try clear hfz13_4
                 try clear hfz13_5
                 try clear hfz13_6
                 try clear hfz14_0
                 try clear hfz14_1
                 try clear hfz14_2
                 try clear hfz14_3
                 try clear hfz14_4
                 try clear hfz14_5
                 try clear hfz14_6
                 try clear hfz15_0
                 try clear hfz15_1
                 try clear hfz15_2
                 try clear hfz15_3
                 try clear hfz15_4
                 try clear hfz15_5
                 try clear hfz15_6
                 try clear hfz19_0
                 try clear hfz19_1
                 try clear hfz19_2
                 try clear hfz19_3
                 try clear hfz19_4
                 try clear hfz19_5
                 try clear hfz19_6
                 try clear hfz20_0
                 try clear hfz20_1
                 try clear hfz20_2
                 try clear hfz20_3
                 try clear hfz20_4
                 try clear hfz20_5
                 try clear hfz20_6
                 try clear hfz26_0
                 try clear hfz26_1
                 try clear hfz26_2
                 try clear hfz26_3
                 try clear hfz26_4
                 try clear hfz26_5
                 try clear hfz26_6
                 try clear hfz27_0
                 try clear hfz27_1
                 try clear hfz27_2
                 try clear hfz27_3
                 try clear hfz27_4
                 try clear hfz27_5
                 try clear hfz27_6
                 try clear hfz28_0
                 try clear hfz28_1
                 try clear hfz28_2
                 try clear hfz28_3
                 try clear hfz28_4
                 try clear hfz28_5
                 try clear hfz28_6
                 try clear hfz29_0
                 try clear hfz29_1
                 try clear hfz29_2
                 try clear hfz29_3
                 try clear hfz29_4
                 try clear hfz29_5
                 try clear hfz29_6
                 try clear hfz35_0
                 try clear hfz35_1
                 try clear hfz35_2
                 try clear hfz35_3
                 try clear hfz35_4
                 try clear hfz35_5
                 try clear hfz35_6
                 try clear hfz36_0
                 try clear hfz36_1
                 try clear hfz36_2
                 try clear hfz36_3
                 try clear hfz36_4
                 try clear hfz36_5
                 try clear hfz36_6
                 try clear hfz41_0
                 try clear hfz41_1
                 try clear hfz41_2
                 try clear hfz41_3
                 try clear hfz41_4
                 try clear hfz41_5
                 try clear hfz41_6
                 try clear hfz42_0
                 try clear hfz42_1
                 try clear hfz42_2
                 try clear hfz42_3
                 try clear hfz42_4
                 try clear hfz42_5
                 try clear hfz42_6
                 try clear hfz43_0
                 try clear hfz43_1
                 try clear hfz43_2
                 try clear hfz43_3
                 try clear hfz43_4
                 try clear hfz43_5
                 try clear hfz43_6
                 try clear hfz47_0
                 try clear hfz47_1
                 try clear hfz47_2
                 try clear hfz47_3
                 try clear hfz47_4
                 try clear hfz47_5
                 try clear hfz47_6
                 try clear hfz49_0
                 try clear hfz49_1
                 try clear hfz49_2
                 try clear hfz49_3
                 try clear hfz49_4
                 try clear hfz49_5
                 try clear hfz49_6
                 try clear hfz50_0
                 try clear hfz50_1
                 try clear hfz50_2
                 try clear hfz50_3
                 try clear hfz50_4
                 try clear hfz50_5
                 try clear hfz50_6
                 try clear hfz9_0
                 try clear hfz9_1
                 try clear hfz9_2
                 try clear hfz9_3
                 try clear hfz9_4
                 try clear hfz9_5
                 try clear hfz9_6
                 try clear p2
                 obtain ⟨kq, x98_45, rfl, HA, HJ45, BK107, HB⟩ := hcut
                 cases kq with
                 | zero => exact absurd HA.out (by simp [laws_isRight.j5])
                 | succ kj45 =>
                  have H := HA.out
                  clear HA
                  simp only [laws_isRight.j5] at H
                  have HC51 := Aside0.mk H
                  clear H
                  go_upto_if 98 with (fail)
                  go_cut [4] (fun v4 wc => ∃ (kq : Nat) (x4_50 : Int), v4 = .int .i64 x4_50 ∧ Aside0 (laws_isRight.j6 kq x3_5 x4_50 a0_0 a0_1 l0_2 a0_3 a0_4 l0_5 l0_6 = some r) ∧ Aside0 (kq ≤ kj45) ∧ Aside0 (wc.heap[gb107]? = some (.cells #[.int .i64 a0_0, .int .i64 a0_1, (.slice A0_2 l0_2.length c0_2), .int .i64 a0_3, .int .i64 a0_4, (.slice A0_5 l0_5.length c0_5), (.slice A0_6 l0_6.length c0_6)] 28 (0, 0))) ∧ Aside0 (Below w.heap.size w wc))
                  case first =>
                   have H := HC51.out
                   clear HC51
                   by_cases c52 : x98_45 = true
                   ·subst c52
                    have H1 : (laws_isRight.j6 kj45 x3_5 a0_3 a0_0 a0_1 l0_2 a0_3 a0_4 l0_5 l0_6) = some r := by rw [if_pos rfl] at H; exact H
                    clear H
                    have H := H1
                    clear H1
                    have H' := Aside0.mk H
                    clear H
                    have hcz53_0 : wc.cell? ⟨gb107, 0, none⟩ = some (.int .i64 a0_0) := (blk_cell BK107.out 0).trans rfl
                    have hcz53_1 : wc.cell? ⟨gb107, 1, none⟩ = some (.int .i64 a0_1) := (blk_cell BK107.out 1).trans rfl
                    have hcz53_2 : wc.cell? ⟨gb107, 2, none⟩ = some (.slice A0_2 l0_2.length c0_2) := (blk_cell BK107.out 2).trans rfl
                    have hcz53_3 : wc.cell? ⟨gb107, 3, none⟩ = some (.int .i64 a0_3) := (blk_cell BK107.out 3).trans rfl
                    have hcz53_4 : wc.cell? ⟨gb107, 4, none⟩ = some (.int .i64 a0_4) := (blk_cell BK107.out 4).trans rfl
                    have hcz53_5 : wc.cell? ⟨gb107, 5, none⟩ = some (.slice A0_5 l0_5.length c0_5) := (blk_cell BK107.out 5).trans rfl
                    have hcz53_6 : wc.cell? ⟨gb107, 6, none⟩ = some (.slice A0_6 l0_6.length c0_6) := (blk_cell BK107.out 6).trans rfl
                    have hfz53_0 := blk_frozen BK107.out 0
                    have hfz53_1 := blk_frozen BK107.out 1
                    have hfz53_2 := blk_frozen BK107.out 2
                    have hfz53_3 := blk_frozen BK107.out 3
                    have hfz53_4 := blk_frozen BK107.out 4
                    have hfz53_5 := blk_frozen BK107.out 5
                    have hfz53_6 := blk_frozen BK107.out 6
                    go_wp2
                    go_meet
                    case rel => exact ⟨_, (a0_3), (by first | rfl | (simp; done) | (simp [*]; done)), H', ⟨by have := HJ1.out; have := HJ16.out; have := HJ21.out; have := HJ30.out; have := HK5.out; have := HJ45.out; first | omega | exact Nat.le_refl _⟩, ⟨by (with_reducible repeat (first | refine blk_drewN ?_ _ | refine blk_drew ?_ | refine blk_alloc ?_ _)); exact BK107.out⟩, ⟨by repeat (first | (with_reducible first | exact HB.out | apply below_alloc | apply pw_below_drewN | apply below_drew1 | refine below_set ?_ GE107.out) | exact HB.out)⟩⟩
                   ·replace c52 := Bool.eq_false_iff.mpr c52
                    subst c52
                    have H1 : (laws_isRight.j6 kj45 x3_5 a0_4 a0_0 a0_1 l0_2 a0_3 a0_4 l0_5 l0_6) = some r := by rw [if_neg (show ¬ (false = true) by decide)] at H; exact H
                    clear H
                    have H := H1
                    clear H1
                    have H' := Aside0.mk H
                    clear H
                    go_wp2
                    go_meet
                    case rel => exact ⟨_, (a0_4), (by first | rfl | (simp; done) | (simp [*]; done)), H', ⟨by have := HJ1.out; have := HJ16.out; have := HJ21.out; have := HJ30.out; have := HK5.out; have := HJ45.out; first | omega | exact Nat.le_refl _⟩, ⟨by (with_reducible repeat (first | refine blk_drewN ?_ _ | refine blk_drew ?_ | refine blk_alloc ?_ _)); exact BK107.out⟩, ⟨by repeat (first | (with_reducible first | exact HB.out | apply below_alloc | apply pw_below_drewN | apply below_drew1 | refine below_set ?_ GE107.out) | exact HB.out)⟩⟩
                  case rest =>
                   clear HC51
                   try clear c1
                   try clear c2
                   try clear p2
                   try clear c3
                   try clear c4
                   try clear c5
                   try clear c6
                   try clear c6b0
                   try clear c6b1
                   try clear c7
                   try clear c7b0
                   try clear c7b1
                   try clear c7b2
                   try clear c8
                   try clear c8b0
                   try clear c8b1
                   try clear c10
                   try clear c12
                   try clear c12b0
                   try clear c12b1
                   try clear c16
                   try clear c18
                   try clear c18b0
                   try clear c21
                   try clear c23
                   try clear c23b0
                   try clear c23b1
                   try clear c24
                   try clear c24b0
                   try clear c24b1
                   try clear c24b2
                   try clear c25
                   try clear c25b0
                   try clear c25b1
                   try clear c30
                   try clear c32
                   try clear c32b0
                   try clear c32b1
                   try clear c33
                   try clear c33b0
                   try clear c33b1
                   try clear c38
                   try clear c39
                   try clear c39b0
                   try clear c39b1
                   try clear c44
                   try clear c45
                   try clear c45b0
                   try clear c48
                   try clear c48b0
                   try clear c48b1
                   try clear c52
                   try clear hcz10_0
                   try clear hcz10_1
                   try clear hcz10_2
                   try clear hcz10_3
                   try clear hcz10_4
                   try clear hcz10_5
                   try clear hcz10_6
                   try clear hcz11_0
                   try clear hcz11_1
                   try clear hcz11_2
                   try clear hcz11_3
                   try clear hcz11_4
                   try clear hcz11_5
                   try clear hcz11_6
                   try clear hcz13_0
                   try clear hcz13_1
                   try clear hcz13_2
                   try clear hcz13_3
                   try clear hcz13_4
                   try clear hcz13_5
                   try clear hcz13_6
                   try clear hcz14_0
                   try clear hcz14_1
                   try clear hcz14_2
                   try clear hcz14_3
                   try clear hcz14_4
                   try clear hcz14_5
                   try clear hcz14_6
                   try clear hcz15_0
                   try clear hcz15_1
                   try clear hcz15_2
                   try clear hcz15_3
                   try clear hcz15_4
                   try clear hcz15_5
                   try clear hcz15_6
                   try clear hcz19_0
                   try clear hcz19_1
                   try clear hcz19_2
                   try clear hcz19_3
                   try clear hcz19_4
                   try clear hcz19_5
                   try clear hcz19_6
                   try clear hcz20_0
                   try clear hcz20_1
                   try clear hcz20_2
                   try clear hcz20_3
                   try clear hcz20_4
                   try clear hcz20_5
                   try clear hcz20_6
                   try clear hcz26_0
                   try clear hcz26_1
                   try clear hcz26_2
                   try clear hcz26_3
                   try clear hcz26_4
                   try clear hcz26_5
                   try clear hcz26_6
                   try clear hcz27_0
                   try clear hcz27_1
                   try clear hcz27_2
                   try clear hcz27_3
                   try clear hcz27_4
                   try clear hcz27_5
                   try clear hcz27_6
                   try clear hcz28_0
                   try clear hcz28_1
                   try clear hcz28_2
                   try clear hcz28_3
                   try clear hcz28_4
                   try clear hcz28_5
                   try clear hcz28_6
                   try clear hcz29_0
                   try clear hcz29_1
                   try clear hcz29_2
                   try clear hcz29_3
                   try clear hcz29_4
                   try clear hcz29_5
                   try clear hcz29_6
                   try clear hcz35_0
                   try clear hcz35_1
                   try clear hcz35_2
                   try clear hcz35_3
                   try clear hcz35_4
                   try clear hcz35_5
                   try clear hcz35_6
                   try clear hcz36_0
                   try clear hcz36_1
                   try clear hcz36_2
                   try clear hcz36_3
                   try clear hcz36_4
                   try clear hcz36_5
                   try clear hcz36_6
                   try clear hcz41_0
                   try clear hcz41_1
                   try clear hcz41_2
                   try clear hcz41_3
                   try clear hcz41_4
                   try clear hcz41_5
                   try clear hcz41_6
                   try clear hcz42_0
                   try clear hcz42_1
                   try clear hcz42_2
                   try clear hcz42_3
                   try clear hcz42_4
                   try clear hcz42_5
                   try clear hcz42_6
                   try clear hcz43_0
                   try clear hcz43_1
                   try clear hcz43_2
                   try clear hcz43_3
                   try clear hcz43_4
                   try clear hcz43_5
                   try clear hcz43_6
                   try clear hcz47_0
                   try clear hcz47_1
                   try clear hcz47_2
                   try clear hcz47_3
                   try clear hcz47_4
                   try clear hcz47_5
                   try clear hcz47_6
                   try clear hcz49_0
                   try clear hcz49_1
                   try clear hcz49_2
                   try clear hcz49_3
                   try clear hcz49_4
                   try clear hcz49_5
                   try clear hcz49_6
                   try clear hcz50_0
                   try clear hcz50_1
                   try clear hcz50_2
                   try clear hcz50_3
                   try clear hcz50_4
                   try clear hcz50_5
                   try clear hcz50_6
                   try clear hcz53_0
                   try clear hcz53_1
                   try clear hcz53_2
                   try clear hcz53_3
                   try clear hcz53_4
                   try clear hcz53_5
                   try clear hcz53_6
                   try clear hcz9_0
                   try clear hcz9_1
                   try clear hcz9_2
                   try clear hcz9_3
                   try clear hcz9_4
                   try clear hcz9_5
                   try clear hcz9_6
                   try clear hfz10_0
                   try clear hfz10_1
                   try clear hfz10_2
                   try clear hfz10_3
                   try clear hfz10_4
                   try clear hfz10_5
                   try clear hfz10_6
                   try clear hfz11_0
                   try clear hfz11_1
                   try clear hfz11_2
                   try clear hfz11_3
                   try clear hfz11_4
                   try clear hfz11_5
                   try clear hfz11_6
                   try clear hfz13_0
                   try clear hfz13_1
                   try clear hfz13_2
                   try clear hfz13_3
                   try clear hfz13_4
                   try clear hfz13_5
                   try clear hfz13_6
                   try clear hfz14_0
                   try clear hfz14_1
                   try clear hfz14_2
                   try clear hfz14_3
                   try clear hfz14_4
                   try clear hfz14_5
                   try clear hfz14_6
                   try clear hfz15_0
                   try clear hfz15_1
                   try clear hfz15_2
                   try clear hfz15_3
                   try clear hfz15_4
                   try clear hfz15_5
                   try clear hfz15_6
                   try clear hfz19_0
                   try clear hfz19_1
                   try clear hfz19_2
                   try clear hfz19_3
                   try clear hfz19_4
                   try clear hfz19_5
                   try clear hfz19_6
                   try clear hfz20_0
                   try clear hfz20_1
                   try clear hfz20_2
                   try clear hfz20_3
                   try clear hfz20_4
                   try clear hfz20_5
                   try clear hfz20_6
                   try clear hfz26_0
                   try clear hfz26_1
                   try clear hfz26_2
                   try clear hfz26_3
                   try clear hfz26_4
                   try clear hfz26_5
                   try clear hfz26_6
                   try clear hfz27_0
                   try clear hfz27_1
                   try clear hfz27_2
                   try clear hfz27_3
                   try clear hfz27_4
                   try clear hfz27_5
                   try clear hfz27_6
                   try clear hfz28_0
                   try clear hfz28_1
                   try clear hfz28_2
                   try clear hfz28_3
                   try clear hfz28_4
                   try clear hfz28_5
                   try clear hfz28_6
                   try clear hfz29_0
                   try clear hfz29_1
                   try clear hfz29_2
                   try clear hfz29_3
                   try clear hfz29_4
                   try clear hfz29_5
                   try clear hfz29_6
                   try clear hfz35_0
                   try clear hfz35_1
                   try clear hfz35_2
                   try clear hfz35_3
                   try clear hfz35_4
                   try clear hfz35_5
                   try clear hfz35_6
                   try clear hfz36_0
                   try clear hfz36_1
                   try clear hfz36_2
                   try clear hfz36_3
                   try clear hfz36_4
                   try clear hfz36_5
                   try clear hfz36_6
                   try clear hfz41_0
                   try clear hfz41_1
                   try clear hfz41_2
                   try clear hfz41_3
                   try clear hfz41_4
                   try clear hfz41_5
                   try clear hfz41_6
                   try clear hfz42_0
                   try clear hfz42_1
                   try clear hfz42_2
                   try clear hfz42_3
                   try clear hfz42_4
                   try clear hfz42_5
                   try clear hfz42_6
                   try clear hfz43_0
                   try clear hfz43_1
                   try clear hfz43_2
                   try clear hfz43_3
                   try clear hfz43_4
                   try clear hfz43_5
                   try clear hfz43_6
                   try clear hfz47_0
                   try clear hfz47_1
                   try clear hfz47_2
                   try clear hfz47_3
                   try clear hfz47_4
                   try clear hfz47_5
                   try clear hfz47_6
                   try clear hfz49_0
                   try clear hfz49_1
                   try clear hfz49_2
                   try clear hfz49_3
                   try clear hfz49_4
                   try clear hfz49_5
                   try clear hfz49_6
                   try clear hfz50_0
                   try clear hfz50_1
                   try clear hfz50_2
                   try clear hfz50_3
                   try clear hfz50_4
                   try clear hfz50_5
                   try clear hfz50_6
                   try clear hfz53_0
                   try clear hfz53_1
                   try clear hfz53_2
                   try clear hfz53_3
                   try clear hfz53_4
                   try clear hfz53_5
                   try clear hfz53_6
                   try clear hfz9_0
                   try clear hfz9_1
                   try clear hfz9_2
                   try clear hfz9_3
                   try clear hfz9_4
                   try clear hfz9_5
                   try clear hfz9_6
                   try clear p2
                   obtain ⟨kq, x4_50, rfl, HA, HJ50, BK107, HB⟩ := hcut
                   cases kq with
                   | zero => exact absurd HA.out (by simp [laws_isRight.j6])
                   | succ kj50 =>
                    have H := HA.out
                    clear HA
                    simp only [laws_isRight.j6] at H
                    by_cases c54 : a0_0 = 12
                    ·rw [if_pos c54] at H
                     have c54b0 : (a0_0 == 12) = true := beq_iff_eq.mpr c54
                     have c54b1 : (a0_0 != 12) = false := bne_eq_false_iff_eq.mpr c54
                     clear c54
                     by_cases c55 : 0 ≤ x3_5
                     ·rw [if_pos c55] at H
                      have c55b0 : decide (0 ≤ x3_5) = true := decide_eq_true c55
                      clear c55
                      by_cases c56 : x3_5 < (l0_6.length : Int)
                      ·rw [if_pos c56] at H
                       have c56b0 : decide (x3_5 < (l0_6.length : Int)) = true := decide_eq_true c56
                       clear c56
                       by_cases c57 : ((rd_Val l0_6 x3_5).f0) = ((rd_Val l0_6 x3_5).f0)
                       ·try rw [if_pos c57] at H
                        have c57b0 : (((rd_Val l0_6 x3_5).f0) == ((rd_Val l0_6 x3_5).f0)) = true := beq_iff_eq.mpr c57
                        have c57b1 : (((rd_Val l0_6 x3_5).f0) != ((rd_Val l0_6 x3_5).f0)) = false := bne_eq_false_iff_eq.mpr c57
                        clear c57
                        replace H := Option.bind_eq_some_iff.mp H
                        obtain ⟨t115, A580, H⟩ := H
                        replace H : (if t115 = true then (laws_isRight.l0 kj50 (wrap64 (x3_5 + 1)) a0_0 a0_1 l0_2 a0_3 a0_4 l0_5 l0_6) else (some false)) = some r := H
                        have A58 := Aside0.mk A580
                        clear A580
                        by_cases c59 : t115 = true
                        ·subst c59
                         have H1 : (laws_isRight.l0 kj50 (wrap64 (x3_5 + 1)) a0_0 a0_1 l0_2 a0_3 a0_4 l0_5 l0_6) = some r := by rw [if_pos rfl] at H; exact H
                         clear H
                         have H := H1
                         clear H1
                         have H' := Aside0.mk H
                         clear H
                         have hcz60_0 : wc.cell? ⟨gb107, 0, none⟩ = some (.int .i64 a0_0) := (blk_cell BK107.out 0).trans rfl
                         have hcz60_1 : wc.cell? ⟨gb107, 1, none⟩ = some (.int .i64 a0_1) := (blk_cell BK107.out 1).trans rfl
                         have hcz60_2 : wc.cell? ⟨gb107, 2, none⟩ = some (.slice A0_2 l0_2.length c0_2) := (blk_cell BK107.out 2).trans rfl
                         have hcz60_3 : wc.cell? ⟨gb107, 3, none⟩ = some (.int .i64 a0_3) := (blk_cell BK107.out 3).trans rfl
                         have hcz60_4 : wc.cell? ⟨gb107, 4, none⟩ = some (.int .i64 a0_4) := (blk_cell BK107.out 4).trans rfl
                         have hcz60_5 : wc.cell? ⟨gb107, 5, none⟩ = some (.slice A0_5 l0_5.length c0_5) := (blk_cell BK107.out 5).trans rfl
                         have hcz60_6 : wc.cell? ⟨gb107, 6, none⟩ = some (.slice A0_6 l0_6.length c0_6) := (blk_cell BK107.out 6).trans rfl
                         have hfz60_0 := blk_frozen BK107.out 0
                         have hfz60_1 := blk_frozen BK107.out 1
                         have hfz60_2 := blk_frozen BK107.out 2
                         have hfz60_3 := blk_frozen BK107.out 3
                         have hfz60_4 := blk_frozen BK107.out 4
                         have hfz60_5 := blk_frozen BK107.out 5
                         have hfz60_6 := blk_frozen BK107.out 6
                         have p112 : 0 ≤ (x3_5 : Int) := of_decide_eq_true (by first | (with_reducible assumption) | assumption)
                         have q112 : x3_5 < (l0_6.length : Int) := of_decide_eq_true (by first | (with_reducible assumption) | assumption)
                         obtain ⟨ad112, A112_2, c112_2, A112_5, c112_5, A112_6, c112_6, e112, hx112_0, hx112_1, hx112_2, hx112_3, hx112_4, hx112_5, hx112_6, hl112_2, hi112_2, hl112_5, hi112_5, hl112_6, hi112_6⟩ := at_Val HR0_6.out x3_5 p112 q112
                         cases e112
                         replace hx112_0 := (HB.out.cell (World.block_lt_of_cell? w _ hx112_0)).trans hx112_0
                         replace hx112_1 := (HB.out.cell (World.block_lt_of_cell? w _ hx112_1)).trans hx112_1
                         replace hx112_2 := (HB.out.cell (World.block_lt_of_cell? w _ hx112_2)).trans hx112_2
                         replace hx112_3 := (HB.out.cell (World.block_lt_of_cell? w _ hx112_3)).trans hx112_3
                         replace hx112_4 := (HB.out.cell (World.block_lt_of_cell? w _ hx112_4)).trans hx112_4
                         replace hx112_5 := (HB.out.cell (World.block_lt_of_cell? w _ hx112_5)).trans hx112_5
                         replace hx112_6 := (HB.out.cell (World.block_lt_of_cell? w _ hx112_6)).trans hx112_6
                         have HR112_2 := Aside0.mk hi112_2
                         have HC112_2 := Aside0.mk hl112_2
                         clear hi112_2 hl112_2
                         have HR112_5 := Aside0.mk hi112_5
                         have HC112_5 := Aside0.mk hl112_5
                         clear hi112_5 hl112_5
                         have HR112_6 := Aside0.mk hi112_6
                         have HC112_6 := Aside0.mk hl112_6
                         clear hi112_6 hl112_6
                         replace p112 := eq_true p112
                         replace q112 := eq_true q112
                         have p113 : 0 ≤ (x3_5 : Int) := of_decide_eq_true (by first | (with_reducible assumption) | assumption)
                         have q113 : x3_5 < (l0_6.length : Int) := of_decide_eq_true (by first | (with_reducible assumption) | assumption)
                         obtain ⟨ad113, A113_2, c113_2, A113_5, c113_5, A113_6, c113_6, e113, hx113_0, hx113_1, hx113_2, hx113_3, hx113_4, hx113_5, hx113_6, hl113_2, hi113_2, hl113_5, hi113_5, hl113_6, hi113_6⟩ := at_Val HR0_6.out x3_5 p113 q113
                         obtain rfl : ad112 = ad113 := (by injection e113)
                         replace hx113_0 := (HB.out.cell (World.block_lt_of_cell? w _ hx113_0)).trans hx113_0
                         replace hx113_1 := (HB.out.cell (World.block_lt_of_cell? w _ hx113_1)).trans hx113_1
                         replace hx113_2 := (HB.out.cell (World.block_lt_of_cell? w _ hx113_2)).trans hx113_2
                         replace hx113_3 := (HB.out.cell (World.block_lt_of_cell? w _ hx113_3)).trans hx113_3
                         replace hx113_4 := (HB.out.cell (World.block_lt_of_cell? w _ hx113_4)).trans hx113_4
                         replace hx113_5 := (HB.out.cell (World.block_lt_of_cell? w _ hx113_5)).trans hx113_5
                         replace hx113_6 := (HB.out.cell (World.block_lt_of_cell? w _ hx113_6)).trans hx113_6
                         have HR113_2 := Aside0.mk hi113_2
                         have HC113_2 := Aside0.mk hl113_2
                         clear hi113_2 hl113_2
                         have HR113_5 := Aside0.mk hi113_5
                         have HC113_5 := Aside0.mk hl113_5
                         clear hi113_5 hl113_5
                         have HR113_6 := Aside0.mk hi113_6
                         have HC113_6 := Aside0.mk hl113_6
                         clear hi113_6 hl113_6
                         replace p113 := eq_true p113
                         replace q113 := eq_true q113
                         have ea_ := Option.some.inj (hx112_2.symm.trans hx113_2)
                         injection ea_ with ea_ en_ ec_
                         subst ea_
                         subst ec_
                         clear en_
                         have ea_ := Option.some.inj (hx112_5.symm.trans hx113_5)
                         injection ea_ with ea_ en_ ec_
                         subst ea_
                         subst ec_
                         clear en_
                         have ea_ := Option.some.inj (hx112_6.symm.trans hx113_6)
                         injection ea_ with ea_ en_ ec_
                         subst ea_
                         subst ec_
                         clear en_
                         have p114 : 0 ≤ (x3_5 : Int) := of_decide_eq_true (by first | (with_reducible assumption) | assumption)
                         have q114 : x3_5 < (l0_6.length : Int) := of_decide_eq_true (by first | (with_reducible assumption) | assumption)
                         obtain ⟨ad114, A114_2, c114_2, A114_5, c114_5, A114_6, c114_6, e114, hx114_0, hx114_1, hx114_2, hx114_3, hx114_4, hx114_5, hx114_6, hl114_2, hi114_2, hl114_5, hi114_5, hl114_6, hi114_6⟩ := at_Val HR0_6.out x3_5 p114 q114
                         obtain rfl : ad112 = ad114 := (by injection e114)
                         replace hx114_0 := (HB.out.cell (World.block_lt_of_cell? w _ hx114_0)).trans hx114_0
                         replace hx114_1 := (HB.out.cell (World.block_lt_of_cell? w _ hx114_1)).trans hx114_1
                         replace hx114_2 := (HB.out.cell (World.block_lt_of_cell? w _ hx114_2)).trans hx114_2
                         replace hx114_3 := (HB.out.cell (World.block_lt_of_cell? w _ hx114_3)).trans hx114_3
                         replace hx114_4 := (HB.out.cell (World.block_lt_of_cell? w _ hx114_4)).trans hx114_4
                         replace hx114_5 := (HB.out.cell (World.block_lt_of_cell? w _ hx114_5)).trans hx114_5
                         replace hx114_6 := (HB.out.cell (World.block_lt_of_cell? w _ hx114_6)).trans hx114_6
                         have HR114_2 := Aside0.mk hi114_2
                         have HC114_2 := Aside0.mk hl114_2
                         clear hi114_2 hl114_2
                         have HR114_5 := Aside0.mk hi114_5
                         have HC114_5 := Aside0.mk hl114_5
                         clear hi114_5 hl114_5
                         have HR114_6 := Aside0.mk hi114_6
                         have HC114_6 := Aside0.mk hl114_6
                         clear hi114_6 hl114_6
                         replace p114 := eq_true p114
                         replace q114 := eq_true q114
                         have ea_ := Option.some.inj (hx112_2.symm.trans hx114_2)
                         injection ea_ with ea_ en_ ec_
                         subst ea_
                         subst ec_
                         clear en_
                         have ea_ := Option.some.inj (hx112_5.symm.trans hx114_5)
                         injection ea_ with ea_ en_ ec_
                         subst ea_
                         subst ec_
                         clear en_
                         have ea_ := Option.some.inj (hx112_6.symm.trans hx114_6)
                         injection ea_ with ea_ en_ ec_
                         subst ea_
                         subst ec_
                         clear en_
                         go_wp2_with (first | (go_at_call 10; (with_reducible refine (ih kj50 (by have := HJ1.out; have := HJ16.out; have := HJ21.out; have := HJ30.out; have := HK5.out; have := HJ45.out; have := HJ50.out; omega) ((rd_Val l0_6 x3_5).f0) ((rd_Val l0_6 x3_5).f1) _ _ ((rd_Val l0_6 x3_5).f2) ((rd_Val l0_6 x3_5).f3) ((rd_Val l0_6 x3_5).f4) _ _ ((rd_Val l0_6 x3_5).f5) _ _ ((rd_Val l0_6 x3_5).f6) true _ ?side1 ?side2 ?side3 ?side4 ?side5 ?side6 A58.out).mono ?_); (case side1 => repeat (first | exact (Kd.C_below HR114_2.out HB.out) | (with_reducible refine Kd.C_alloc ?_ _) | (with_reducible refine Kd.C_drewN ?_ _) | (with_reducible refine Kd.C_drew ?_))); (case side2 => exact HC114_2.out); (case side3 => repeat (first | exact (Kd.C_below HR114_5.out HB.out) | (with_reducible refine Kd.C_alloc ?_ _) | (with_reducible refine Kd.C_drewN ?_ _) | (with_reducible refine Kd.C_drew ?_))); (case side4 => exact HC114_5.out); (case side5 => repeat (first | exact (Kd.C_below HR114_6.out HB.out) | (with_reducible refine Kd.C_alloc ?_ _) | (with_reducible refine Kd.C_drewN ?_ _) | (with_reducible refine Kd.C_drew ?_))); (case side6 => exact HC114_6.out); rintro e w61 ⟨rfl, hb⟩; have n0_ := Aside0.mk (blk_below (g := gb107) (o := .cells #[.int .i64 a0_0, .int .i64 a0_1, .slice A0_2 l0_2.length c0_2, .int .i64 a0_3, .int .i64 a0_4, .slice A0_5 l0_5.length c0_5, .slice (some ad112) l0_6.length c0_6] 28 (0, 0)) (by (with_reducible repeat (first | refine blk_drewN ?_ _ | refine blk_drew ?_ | refine blk_alloc ?_ _)); exact BK107.out) hb); have n1_ := Aside0.mk (below_step (by repeat (first | (with_reducible first | exact HB.out | apply below_alloc | apply pw_below_drewN | apply below_drew1 | refine below_set ?_ GE107.out) | exact HB.out)) hb); clear BK107; clear HB; have BK107 := n0_; have HB := n1_; clear n0_ n1_; (try clear hb); (try clear hb2); (try clear hk); (try clear hi)))
                         go_roundg kj50
                         case measure => have := HJ1.out; have := HJ16.out; have := HJ21.out; have := HJ30.out; have := HK5.out; have := HJ45.out; have := HJ50.out; omega
                         case rel => exact ⟨(wrap64 (x3_5 + 1)), (by first | rfl | (simp; done) | (simp [*]; done)), H', ⟨by have := HJ1.out; have := HJ16.out; have := HJ21.out; have := HJ30.out; have := HK5.out; have := HJ45.out; have := HJ50.out; omega⟩, ⟨by (with_reducible repeat (first | refine blk_drewN ?_ _ | refine blk_drew ?_ | refine blk_alloc ?_ _)); exact BK107.out⟩, ⟨by repeat (first | (with_reducible first | exact HB.out | apply below_alloc | apply pw_below_drewN | apply below_drew1 | refine below_set ?_ GE107.out) | exact HB.out)⟩⟩
                        ·replace c59 := Bool.eq_false_iff.mpr c59
                         subst c59
                         have H1 : (some false) = some r := by rw [if_neg (show ¬ (false = true) by decide)] at H; exact H
                         clear H
                         have H := H1
                         clear H1
                         obtain rfl := Option.some.inj H
                         have hcz62_0 : wc.cell? ⟨gb107, 0, none⟩ = some (.int .i64 a0_0) := (blk_cell BK107.out 0).trans rfl
                         have hcz62_1 : wc.cell? ⟨gb107, 1, none⟩ = some (.int .i64 a0_1) := (blk_cell BK107.out 1).trans rfl
                         have hcz62_2 : wc.cell? ⟨gb107, 2, none⟩ = some (.slice A0_2 l0_2.length c0_2) := (blk_cell BK107.out 2).trans rfl
                         have hcz62_3 : wc.cell? ⟨gb107, 3, none⟩ = some (.int .i64 a0_3) := (blk_cell BK107.out 3).trans rfl
                         have hcz62_4 : wc.cell? ⟨gb107, 4, none⟩ = some (.int .i64 a0_4) := (blk_cell BK107.out 4).trans rfl
                         have hcz62_5 : wc.cell? ⟨gb107, 5, none⟩ = some (.slice A0_5 l0_5.length c0_5) := (blk_cell BK107.out 5).trans rfl
                         have hcz62_6 : wc.cell? ⟨gb107, 6, none⟩ = some (.slice A0_6 l0_6.length c0_6) := (blk_cell BK107.out 6).trans rfl
                         have hfz62_0 := blk_frozen BK107.out 0
                         have hfz62_1 := blk_frozen BK107.out 1
                         have hfz62_2 := blk_frozen BK107.out 2
                         have hfz62_3 := blk_frozen BK107.out 3
                         have hfz62_4 := blk_frozen BK107.out 4
                         have hfz62_5 := blk_frozen BK107.out 5
                         have hfz62_6 := blk_frozen BK107.out 6
                         have p112 : 0 ≤ (x3_5 : Int) := of_decide_eq_true (by first | (with_reducible assumption) | assumption)
                         have q112 : x3_5 < (l0_6.length : Int) := of_decide_eq_true (by first | (with_reducible assumption) | assumption)
                         obtain ⟨ad112, A112_2, c112_2, A112_5, c112_5, A112_6, c112_6, e112, hx112_0, hx112_1, hx112_2, hx112_3, hx112_4, hx112_5, hx112_6, hl112_2, hi112_2, hl112_5, hi112_5, hl112_6, hi112_6⟩ := at_Val HR0_6.out x3_5 p112 q112
                         cases e112
                         replace hx112_0 := (HB.out.cell (World.block_lt_of_cell? w _ hx112_0)).trans hx112_0
                         replace hx112_1 := (HB.out.cell (World.block_lt_of_cell? w _ hx112_1)).trans hx112_1
                         replace hx112_2 := (HB.out.cell (World.block_lt_of_cell? w _ hx112_2)).trans hx112_2
                         replace hx112_3 := (HB.out.cell (World.block_lt_of_cell? w _ hx112_3)).trans hx112_3
                         replace hx112_4 := (HB.out.cell (World.block_lt_of_cell? w _ hx112_4)).trans hx112_4
                         replace hx112_5 := (HB.out.cell (World.block_lt_of_cell? w _ hx112_5)).trans hx112_5
                         replace hx112_6 := (HB.out.cell (World.block_lt_of_cell? w _ hx112_6)).trans hx112_6
                         have HR112_2 := Aside0.mk hi112_2
                         have HC112_2 := Aside0.mk hl112_2
                         clear hi112_2 hl112_2
                         have HR112_5 := Aside0.mk hi112_5
                         have HC112_5 := Aside0.mk hl112_5
                         clear hi112_5 hl112_5
                         have HR112_6 := Aside0.mk hi112_6
                         have HC112_6 := Aside0.mk hl112_6
                         clear hi112_6 hl112_6
                         replace p112 := eq_true p112
                         replace q112 := eq_true q112
                         have p113 : 0 ≤ (x3_5 : Int) := of_decide_eq_true (by first | (with_reducible assumption) | assumption)
                         have q113 : x3_5 < (l0_6.length : Int) := of_decide_eq_true (by first | (with_reducible assumption) | assumption)
                         obtain ⟨ad113, A113_2, c113_2, A113_5, c113_5, A113_6, c113_6, e113, hx113_0, hx113_1, hx113_2, hx113_3, hx113_4, hx113_5, hx113_6, hl113_2, hi113_2, hl113_5, hi113_5, hl113_6, hi113_6⟩ := at_Val HR0_6.out x3_5 p113 q113
                         obtain rfl : ad112 = ad113 := (by injection e113)
                         replace hx113_0 := (HB.out.cell (World.block_lt_of_cell? w _ hx113_0)).trans hx113_0
                         replace hx113_1 := (HB.out.cell (World.block_lt_of_cell? w _ hx113_1)).trans hx113_1
                         replace hx113_2 := (HB.out.cell (World.block_lt_of_cell? w _ hx113_2)).trans hx113_2
                         replace hx113_3 := (HB.out.cell (World.block_lt_of_cell? w _ hx113_3)).trans hx113_3
                         replace hx113_4 := (HB.out.cell (World.block_lt_of_cell? w _ hx113_4)).trans hx113_4
                         replace hx113_5 := (HB.out.cell (World.block_lt_of_cell? w _ hx113_5)).trans hx113_5
                         replace hx113_6 := (HB.out.cell (World.block_lt_of_cell? w _ hx113_6)).trans hx113_6
                         have HR113_2 := Aside0.mk hi113_2
                         have HC113_2 := Aside0.mk hl113_2
                         clear hi113_2 hl113_2
                         have HR113_5 := Aside0.mk hi113_5
                         have HC113_5 := Aside0.mk hl113_5
                         clear hi113_5 hl113_5
                         have HR113_6 := Aside0.mk hi113_6
                         have HC113_6 := Aside0.mk hl113_6
                         clear hi113_6 hl113_6
                         replace p113 := eq_true p113
                         replace q113 := eq_true q113
                         have ea_ := Option.some.inj (hx112_2.symm.trans hx113_2)
                         injection ea_ with ea_ en_ ec_
                         subst ea_
                         subst ec_
                         clear en_
                         have ea_ := Option.some.inj (hx112_5.symm.trans hx113_5)
                         injection ea_ with ea_ en_ ec_
                         subst ea_
                         subst ec_
                         clear en_
                         have ea_ := Option.some.inj (hx112_6.symm.trans hx113_6)
                         injection ea_ with ea_ en_ ec_
                         subst ea_
                         subst ec_
                         clear en_
                         have p114 : 0 ≤ (x3_5 : Int) := of_decide_eq_true (by first | (with_reducible assumption) | assumption)
                         have q114 : x3_5 < (l0_6.length : Int) := of_decide_eq_true (by first | (with_reducible assumption) | assumption)
                         obtain ⟨ad114, A114_2, c114_2, A114_5, c114_5, A114_6, c114_6, e114, hx114_0, hx114_1, hx114_2, hx114_3, hx114_4, hx114_5, hx114_6, hl114_2, hi114_2, hl114_5, hi114_5, hl114_6, hi114_6⟩ := at_Val HR0_6.out x3_5 p114 q114
                         obtain rfl : ad112 = ad114 := (by injection e114)
                         replace hx114_0 := (HB.out.cell (World.block_lt_of_cell? w _ hx114_0)).trans hx114_0
                         replace hx114_1 := (HB.out.cell (World.block_lt_of_cell? w _ hx114_1)).trans hx114_1
                         replace hx114_2 := (HB.out.cell (World.block_lt_of_cell? w _ hx114_2)).trans hx114_2
                         replace hx114_3 := (HB.out.cell (World.block_lt_of_cell? w _ hx114_3)).trans hx114_3
                         replace hx114_4 := (HB.out.cell (World.block_lt_of_cell? w _ hx114_4)).trans hx114_4
                         replace hx114_5 := (HB.out.cell (World.block_lt_of_cell? w _ hx114_5)).trans hx114_5
                         replace hx114_6 := (HB.out.cell (World.block_lt_of_cell? w _ hx114_6)).trans hx114_6
                         have HR114_2 := Aside0.mk hi114_2
                         have HC114_2 := Aside0.mk hl114_2
                         clear hi114_2 hl114_2
                         have HR114_5 := Aside0.mk hi114_5
                         have HC114_5 := Aside0.mk hl114_5
                         clear hi114_5 hl114_5
                         have HR114_6 := Aside0.mk hi114_6
                         have HC114_6 := Aside0.mk hl114_6
                         clear hi114_6 hl114_6
                         replace p114 := eq_true p114
                         replace q114 := eq_true q114
                         have ea_ := Option.some.inj (hx112_2.symm.trans hx114_2)
                         injection ea_ with ea_ en_ ec_
                         subst ea_
                         subst ec_
                         clear en_
                         have ea_ := Option.some.inj (hx112_5.symm.trans hx114_5)
                         injection ea_ with ea_ en_ ec_
                         subst ea_
                         subst ec_
                         clear en_
                         have ea_ := Option.some.inj (hx112_6.symm.trans hx114_6)
                         injection ea_ with ea_ en_ ec_
                         subst ea_
                         subst ec_
                         clear en_
                         go_wp2_with (first | (go_at_call 10; (with_reducible refine (ih kj50 (by have := HJ1.out; have := HJ16.out; have := HJ21.out; have := HJ30.out; have := HK5.out; have := HJ45.out; have := HJ50.out; omega) ((rd_Val l0_6 x3_5).f0) ((rd_Val l0_6 x3_5).f1) _ _ ((rd_Val l0_6 x3_5).f2) ((rd_Val l0_6 x3_5).f3) ((rd_Val l0_6 x3_5).f4) _ _ ((rd_Val l0_6 x3_5).f5) _ _ ((rd_Val l0_6 x3_5).f6) false _ ?side1 ?side2 ?side3 ?side4 ?side5 ?side6 A58.out).mono ?_); (case side1 => repeat (first | exact (Kd.C_below HR114_2.out HB.out) | (with_reducible refine Kd.C_alloc ?_ _) | (with_reducible refine Kd.C_drewN ?_ _) | (with_reducible refine Kd.C_drew ?_))); (case side2 => exact HC114_2.out); (case side3 => repeat (first | exact (Kd.C_below HR114_5.out HB.out) | (with_reducible refine Kd.C_alloc ?_ _) | (with_reducible refine Kd.C_drewN ?_ _) | (with_reducible refine Kd.C_drew ?_))); (case side4 => exact HC114_5.out); (case side5 => repeat (first | exact (Kd.C_below HR114_6.out HB.out) | (with_reducible refine Kd.C_alloc ?_ _) | (with_reducible refine Kd.C_drewN ?_ _) | (with_reducible refine Kd.C_drew ?_))); (case side6 => exact HC114_6.out); rintro e w63 ⟨rfl, hb⟩; have n0_ := Aside0.mk (blk_below (g := gb107) (o := .cells #[.int .i64 a0_0, .int .i64 a0_1, .slice A0_2 l0_2.length c0_2, .int .i64 a0_3, .int .i64 a0_4, .slice A0_5 l0_5.length c0_5, .slice (some ad112) l0_6.length c0_6] 28 (0, 0)) (by (with_reducible repeat (first | refine blk_drewN ?_ _ | refine blk_drew ?_ | refine blk_alloc ?_ _)); exact BK107.out) hb); have n1_ := Aside0.mk (below_step (by repeat (first | (with_reducible first | exact HB.out | apply below_alloc | apply pw_below_drewN | apply below_drew1 | refine below_set ?_ GE107.out) | exact HB.out)) hb); clear BK107; clear HB; have BK107 := n0_; have HB := n1_; clear n0_ n1_; (try clear hb); (try clear hb2); (try clear hk); (try clear hi)))
                         go_ret
                         exact ⟨by first | rfl | (simp [Nat.add_zero] <;> rfl) | (simp [*, Nat.add_zero] <;> rfl), by repeat (first | (with_reducible first | exact HB.out | apply below_alloc | apply pw_below_drewN | apply below_drew1 | refine below_set ?_ GE107.out) | exact HB.out)⟩
                       ·exact absurd rfl c57
                      ·rw [if_neg c56] at H
                       exact absurd H (by simp)
                     ·rw [if_neg c55] at H
                      exact absurd H (by simp)
                    ·rw [if_neg c54] at H
                     have c54b0 : (a0_0 == 12) = false := beq_eq_false_iff_ne.mpr c54
                     have c54b1 : (a0_0 != 12) = true := bne_iff_ne.mpr c54
                     by_cases c65 : 0 ≤ x3_5
                     ·rw [if_pos c65] at H
                      have c65b0 : decide (0 ≤ x3_5) = true := decide_eq_true c65
                      clear c65
                      by_cases c66 : x3_5 < (l0_6.length : Int)
                      ·rw [if_pos c66] at H
                       have c66b0 : decide (x3_5 < (l0_6.length : Int)) = true := decide_eq_true c66
                       clear c66
                       by_cases c67 : ((rd_Val l0_6 x3_5).f0) = x4_50
                       ·rw [if_pos c67] at H
                        have c67b0 : (((rd_Val l0_6 x3_5).f0) == x4_50) = true := beq_iff_eq.mpr c67
                        have c67b1 : (((rd_Val l0_6 x3_5).f0) != x4_50) = false := bne_eq_false_iff_eq.mpr c67
                        clear c67
                        replace H := Option.bind_eq_some_iff.mp H
                        obtain ⟨t118, A680, H⟩ := H
                        replace H : (if t118 = true then (laws_isRight.l0 kj50 (wrap64 (x3_5 + 1)) a0_0 a0_1 l0_2 a0_3 a0_4 l0_5 l0_6) else (some false)) = some r := H
                        have A68 := Aside0.mk A680
                        clear A680
                        by_cases c69 : t118 = true
                        ·subst c69
                         have H1 : (laws_isRight.l0 kj50 (wrap64 (x3_5 + 1)) a0_0 a0_1 l0_2 a0_3 a0_4 l0_5 l0_6) = some r := by rw [if_pos rfl] at H; exact H
                         clear H
                         have H := H1
                         clear H1
                         have H' := Aside0.mk H
                         clear H
                         have hcz70_0 : wc.cell? ⟨gb107, 0, none⟩ = some (.int .i64 a0_0) := (blk_cell BK107.out 0).trans rfl
                         have hcz70_1 : wc.cell? ⟨gb107, 1, none⟩ = some (.int .i64 a0_1) := (blk_cell BK107.out 1).trans rfl
                         have hcz70_2 : wc.cell? ⟨gb107, 2, none⟩ = some (.slice A0_2 l0_2.length c0_2) := (blk_cell BK107.out 2).trans rfl
                         have hcz70_3 : wc.cell? ⟨gb107, 3, none⟩ = some (.int .i64 a0_3) := (blk_cell BK107.out 3).trans rfl
                         have hcz70_4 : wc.cell? ⟨gb107, 4, none⟩ = some (.int .i64 a0_4) := (blk_cell BK107.out 4).trans rfl
                         have hcz70_5 : wc.cell? ⟨gb107, 5, none⟩ = some (.slice A0_5 l0_5.length c0_5) := (blk_cell BK107.out 5).trans rfl
                         have hcz70_6 : wc.cell? ⟨gb107, 6, none⟩ = some (.slice A0_6 l0_6.length c0_6) := (blk_cell BK107.out 6).trans rfl
                         have hfz70_0 := blk_frozen BK107.out 0
                         have hfz70_1 := blk_frozen BK107.out 1
                         have hfz70_2 := blk_frozen BK107.out 2
                         have hfz70_3 := blk_frozen BK107.out 3
                         have hfz70_4 := blk_frozen BK107.out 4
                         have hfz70_5 := blk_frozen BK107.out 5
                         have hfz70_6 := blk_frozen BK107.out 6
                         have p116 : 0 ≤ (x3_5 : Int) := of_decide_eq_true (by first | (with_reducible assumption) | assumption)
                         have q116 : x3_5 < (l0_6.length : Int) := of_decide_eq_true (by first | (with_reducible assumption) | assumption)
                         obtain ⟨ad116, A116_2, c116_2, A116_5, c116_5, A116_6, c116_6, e116, hx116_0, hx116_1, hx116_2, hx116_3, hx116_4, hx116_5, hx116_6, hl116_2, hi116_2, hl116_5, hi116_5, hl116_6, hi116_6⟩ := at_Val HR0_6.out x3_5 p116 q116
                         cases e116
                         replace hx116_0 := (HB.out.cell (World.block_lt_of_cell? w _ hx116_0)).trans hx116_0
                         replace hx116_1 := (HB.out.cell (World.block_lt_of_cell? w _ hx116_1)).trans hx116_1
                         replace hx116_2 := (HB.out.cell (World.block_lt_of_cell? w _ hx116_2)).trans hx116_2
                         replace hx116_3 := (HB.out.cell (World.block_lt_of_cell? w _ hx116_3)).trans hx116_3
                         replace hx116_4 := (HB.out.cell (World.block_lt_of_cell? w _ hx116_4)).trans hx116_4
                         replace hx116_5 := (HB.out.cell (World.block_lt_of_cell? w _ hx116_5)).trans hx116_5
                         replace hx116_6 := (HB.out.cell (World.block_lt_of_cell? w _ hx116_6)).trans hx116_6
                         have HR116_2 := Aside0.mk hi116_2
                         have HC116_2 := Aside0.mk hl116_2
                         clear hi116_2 hl116_2
                         have HR116_5 := Aside0.mk hi116_5
                         have HC116_5 := Aside0.mk hl116_5
                         clear hi116_5 hl116_5
                         have HR116_6 := Aside0.mk hi116_6
                         have HC116_6 := Aside0.mk hl116_6
                         clear hi116_6 hl116_6
                         replace p116 := eq_true p116
                         replace q116 := eq_true q116
                         have p117 : 0 ≤ (x3_5 : Int) := of_decide_eq_true (by first | (with_reducible assumption) | assumption)
                         have q117 : x3_5 < (l0_6.length : Int) := of_decide_eq_true (by first | (with_reducible assumption) | assumption)
                         obtain ⟨ad117, A117_2, c117_2, A117_5, c117_5, A117_6, c117_6, e117, hx117_0, hx117_1, hx117_2, hx117_3, hx117_4, hx117_5, hx117_6, hl117_2, hi117_2, hl117_5, hi117_5, hl117_6, hi117_6⟩ := at_Val HR0_6.out x3_5 p117 q117
                         obtain rfl : ad116 = ad117 := (by injection e117)
                         replace hx117_0 := (HB.out.cell (World.block_lt_of_cell? w _ hx117_0)).trans hx117_0
                         replace hx117_1 := (HB.out.cell (World.block_lt_of_cell? w _ hx117_1)).trans hx117_1
                         replace hx117_2 := (HB.out.cell (World.block_lt_of_cell? w _ hx117_2)).trans hx117_2
                         replace hx117_3 := (HB.out.cell (World.block_lt_of_cell? w _ hx117_3)).trans hx117_3
                         replace hx117_4 := (HB.out.cell (World.block_lt_of_cell? w _ hx117_4)).trans hx117_4
                         replace hx117_5 := (HB.out.cell (World.block_lt_of_cell? w _ hx117_5)).trans hx117_5
                         replace hx117_6 := (HB.out.cell (World.block_lt_of_cell? w _ hx117_6)).trans hx117_6
                         have HR117_2 := Aside0.mk hi117_2
                         have HC117_2 := Aside0.mk hl117_2
                         clear hi117_2 hl117_2
                         have HR117_5 := Aside0.mk hi117_5
                         have HC117_5 := Aside0.mk hl117_5
                         clear hi117_5 hl117_5
                         have HR117_6 := Aside0.mk hi117_6
                         have HC117_6 := Aside0.mk hl117_6
                         clear hi117_6 hl117_6
                         replace p117 := eq_true p117
                         replace q117 := eq_true q117
                         have ea_ := Option.some.inj (hx116_2.symm.trans hx117_2)
                         injection ea_ with ea_ en_ ec_
                         subst ea_
                         subst ec_
                         clear en_
                         have ea_ := Option.some.inj (hx116_5.symm.trans hx117_5)
                         injection ea_ with ea_ en_ ec_
                         subst ea_
                         subst ec_
                         clear en_
                         have ea_ := Option.some.inj (hx116_6.symm.trans hx117_6)
                         injection ea_ with ea_ en_ ec_
                         subst ea_
                         subst ec_
                         clear en_
                         go_wp2_with (first | (go_at_call 10; (with_reducible refine (ih kj50 (by have := HJ1.out; have := HJ16.out; have := HJ21.out; have := HJ30.out; have := HK5.out; have := HJ45.out; have := HJ50.out; omega) ((rd_Val l0_6 x3_5).f0) ((rd_Val l0_6 x3_5).f1) _ _ ((rd_Val l0_6 x3_5).f2) ((rd_Val l0_6 x3_5).f3) ((rd_Val l0_6 x3_5).f4) _ _ ((rd_Val l0_6 x3_5).f5) _ _ ((rd_Val l0_6 x3_5).f6) true _ ?side1 ?side2 ?side3 ?side4 ?side5 ?side6 A68.out).mono ?_); (case side1 => repeat (first | exact (Kd.C_below HR117_2.out HB.out) | (with_reducible refine Kd.C_alloc ?_ _) | (with_reducible refine Kd.C_drewN ?_ _) | (with_reducible refine Kd.C_drew ?_))); (case side2 => exact HC117_2.out); (case side3 => repeat (first | exact (Kd.C_below HR117_5.out HB.out) | (with_reducible refine Kd.C_alloc ?_ _) | (with_reducible refine Kd.C_drewN ?_ _) | (with_reducible refine Kd.C_drew ?_))); (case side4 => exact HC117_5.out); (case side5 => repeat (first | exact (Kd.C_below HR117_6.out HB.out) | (with_reducible refine Kd.C_alloc ?_ _) | (with_reducible refine Kd.C_drewN ?_ _) | (with_reducible refine Kd.C_drew ?_))); (case side6 => exact HC117_6.out); rintro e w71 ⟨rfl, hb⟩; have n0_ := Aside0.mk (blk_below (g := gb107) (o := .cells #[.int .i64 a0_0, .int .i64 a0_1, .slice A0_2 l0_2.length c0_2, .int .i64 a0_3, .int .i64 a0_4, .slice A0_5 l0_5.length c0_5, .slice (some ad116) l0_6.length c0_6] 28 (0, 0)) (by (with_reducible repeat (first | refine blk_drewN ?_ _ | refine blk_drew ?_ | refine blk_alloc ?_ _)); exact BK107.out) hb); have n1_ := Aside0.mk (below_step (by repeat (first | (with_reducible first | exact HB.out | apply below_alloc | apply pw_below_drewN | apply below_drew1 | refine below_set ?_ GE107.out) | exact HB.out)) hb); clear BK107; clear HB; have BK107 := n0_; have HB := n1_; clear n0_ n1_; (try clear hb); (try clear hb2); (try clear hk); (try clear hi)))
                         go_roundg kj50
                         case measure => have := HJ1.out; have := HJ16.out; have := HJ21.out; have := HJ30.out; have := HK5.out; have := HJ45.out; have := HJ50.out; omega
                         case rel => exact ⟨(wrap64 (x3_5 + 1)), (by first | rfl | (simp; done) | (simp [*]; done)), H', ⟨by have := HJ1.out; have := HJ16.out; have := HJ21.out; have := HJ30.out; have := HK5.out; have := HJ45.out; have := HJ50.out; omega⟩, ⟨by (with_reducible repeat (first | refine blk_drewN ?_ _ | refine blk_drew ?_ | refine blk_alloc ?_ _)); exact BK107.out⟩, ⟨by repeat (first | (with_reducible first | exact HB.out | apply below_alloc | apply pw_below_drewN | apply below_drew1 | refine below_set ?_ GE107.out) | exact HB.out)⟩⟩
                        ·replace c69 := Bool.eq_false_iff.mpr c69
                         subst c69
                         have H1 : (some false) = some r := by rw [if_neg (show ¬ (false = true) by decide)] at H; exact H
                         clear H
                         have H := H1
                         clear H1
                         obtain rfl := Option.some.inj H
                         have hcz72_0 : wc.cell? ⟨gb107, 0, none⟩ = some (.int .i64 a0_0) := (blk_cell BK107.out 0).trans rfl
                         have hcz72_1 : wc.cell? ⟨gb107, 1, none⟩ = some (.int .i64 a0_1) := (blk_cell BK107.out 1).trans rfl
                         have hcz72_2 : wc.cell? ⟨gb107, 2, none⟩ = some (.slice A0_2 l0_2.length c0_2) := (blk_cell BK107.out 2).trans rfl
                         have hcz72_3 : wc.cell? ⟨gb107, 3, none⟩ = some (.int .i64 a0_3) := (blk_cell BK107.out 3).trans rfl
                         have hcz72_4 : wc.cell? ⟨gb107, 4, none⟩ = some (.int .i64 a0_4) := (blk_cell BK107.out 4).trans rfl
                         have hcz72_5 : wc.cell? ⟨gb107, 5, none⟩ = some (.slice A0_5 l0_5.length c0_5) := (blk_cell BK107.out 5).trans rfl
                         have hcz72_6 : wc.cell? ⟨gb107, 6, none⟩ = some (.slice A0_6 l0_6.length c0_6) := (blk_cell BK107.out 6).trans rfl
                         have hfz72_0 := blk_frozen BK107.out 0
                         have hfz72_1 := blk_frozen BK107.out 1
                         have hfz72_2 := blk_frozen BK107.out 2
                         have hfz72_3 := blk_frozen BK107.out 3
                         have hfz72_4 := blk_frozen BK107.out 4
                         have hfz72_5 := blk_frozen BK107.out 5
                         have hfz72_6 := blk_frozen BK107.out 6
                         have p116 : 0 ≤ (x3_5 : Int) := of_decide_eq_true (by first | (with_reducible assumption) | assumption)
                         have q116 : x3_5 < (l0_6.length : Int) := of_decide_eq_true (by first | (with_reducible assumption) | assumption)
                         obtain ⟨ad116, A116_2, c116_2, A116_5, c116_5, A116_6, c116_6, e116, hx116_0, hx116_1, hx116_2, hx116_3, hx116_4, hx116_5, hx116_6, hl116_2, hi116_2, hl116_5, hi116_5, hl116_6, hi116_6⟩ := at_Val HR0_6.out x3_5 p116 q116
                         cases e116
                         replace hx116_0 := (HB.out.cell (World.block_lt_of_cell? w _ hx116_0)).trans hx116_0
                         replace hx116_1 := (HB.out.cell (World.block_lt_of_cell? w _ hx116_1)).trans hx116_1
                         replace hx116_2 := (HB.out.cell (World.block_lt_of_cell? w _ hx116_2)).trans hx116_2
                         replace hx116_3 := (HB.out.cell (World.block_lt_of_cell? w _ hx116_3)).trans hx116_3
                         replace hx116_4 := (HB.out.cell (World.block_lt_of_cell? w _ hx116_4)).trans hx116_4
                         replace hx116_5 := (HB.out.cell (World.block_lt_of_cell? w _ hx116_5)).trans hx116_5
                         replace hx116_6 := (HB.out.cell (World.block_lt_of_cell? w _ hx116_6)).trans hx116_6
                         have HR116_2 := Aside0.mk hi116_2
                         have HC116_2 := Aside0.mk hl116_2
                         clear hi116_2 hl116_2
                         have HR116_5 := Aside0.mk hi116_5
                         have HC116_5 := Aside0.mk hl116_5
                         clear hi116_5 hl116_5
                         have HR116_6 := Aside0.mk hi116_6
                         have HC116_6 := Aside0.mk hl116_6
                         clear hi116_6 hl116_6
                         replace p116 := eq_true p116
                         replace q116 := eq_true q116
                         have p117 : 0 ≤ (x3_5 : Int) := of_decide_eq_true (by first | (with_reducible assumption) | assumption)
                         have q117 : x3_5 < (l0_6.length : Int) := of_decide_eq_true (by first | (with_reducible assumption) | assumption)
                         obtain ⟨ad117, A117_2, c117_2, A117_5, c117_5, A117_6, c117_6, e117, hx117_0, hx117_1, hx117_2, hx117_3, hx117_4, hx117_5, hx117_6, hl117_2, hi117_2, hl117_5, hi117_5, hl117_6, hi117_6⟩ := at_Val HR0_6.out x3_5 p117 q117
                         obtain rfl : ad116 = ad117 := (by injection e117)
                         replace hx117_0 := (HB.out.cell (World.block_lt_of_cell? w _ hx117_0)).trans hx117_0
                         replace hx117_1 := (HB.out.cell (World.block_lt_of_cell? w _ hx117_1)).trans hx117_1
                         replace hx117_2 := (HB.out.cell (World.block_lt_of_cell? w _ hx117_2)).trans hx117_2
                         replace hx117_3 := (HB.out.cell (World.block_lt_of_cell? w _ hx117_3)).trans hx117_3
                         replace hx117_4 := (HB.out.cell (World.block_lt_of_cell? w _ hx117_4)).trans hx117_4
                         replace hx117_5 := (HB.out.cell (World.block_lt_of_cell? w _ hx117_5)).trans hx117_5
                         replace hx117_6 := (HB.out.cell (World.block_lt_of_cell? w _ hx117_6)).trans hx117_6
                         have HR117_2 := Aside0.mk hi117_2
                         have HC117_2 := Aside0.mk hl117_2
                         clear hi117_2 hl117_2
                         have HR117_5 := Aside0.mk hi117_5
                         have HC117_5 := Aside0.mk hl117_5
                         clear hi117_5 hl117_5
                         have HR117_6 := Aside0.mk hi117_6
                         have HC117_6 := Aside0.mk hl117_6
                         clear hi117_6 hl117_6
                         replace p117 := eq_true p117
                         replace q117 := eq_true q117
                         have ea_ := Option.some.inj (hx116_2.symm.trans hx117_2)
                         injection ea_ with ea_ en_ ec_
                         subst ea_
                         subst ec_
                         clear en_
                         have ea_ := Option.some.inj (hx116_5.symm.trans hx117_5)
                         injection ea_ with ea_ en_ ec_
                         subst ea_
                         subst ec_
                         clear en_
                         have ea_ := Option.some.inj (hx116_6.symm.trans hx117_6)
                         injection ea_ with ea_ en_ ec_
                         subst ea_
                         subst ec_
                         clear en_
                         go_wp2_with (first | (go_at_call 10; (with_reducible refine (ih kj50 (by have := HJ1.out; have := HJ16.out; have := HJ21.out; have := HJ30.out; have := HK5.out; have := HJ45.out; have := HJ50.out; omega) ((rd_Val l0_6 x3_5).f0) ((rd_Val l0_6 x3_5).f1) _ _ ((rd_Val l0_6 x3_5).f2) ((rd_Val l0_6 x3_5).f3) ((rd_Val l0_6 x3_5).f4) _ _ ((rd_Val l0_6 x3_5).f5) _ _ ((rd_Val l0_6 x3_5).f6) false _ ?side1 ?side2 ?side3 ?side4 ?side5 ?side6 A68.out).mono ?_); (case side1 => repeat (first | exact (Kd.C_below HR117_2.out HB.out) | (with_reducible refine Kd.C_alloc ?_ _) | (with_reducible refine Kd.C_drewN ?_ _) | (with_reducible refine Kd.C_drew ?_))); (case side2 => exact HC117_2.out); (case side3 => repeat (first | exact (Kd.C_below HR117_5.out HB.out) | (with_reducible refine Kd.C_alloc ?_ _) | (with_reducible refine Kd.C_drewN ?_ _) | (with_reducible refine Kd.C_drew ?_))); (case side4 => exact HC117_5.out); (case side5 => repeat (first | exact (Kd.C_below HR117_6.out HB.out) | (with_reducible refine Kd.C_alloc ?_ _) | (with_reducible refine Kd.C_drewN ?_ _) | (with_reducible refine Kd.C_drew ?_))); (case side6 => exact HC117_6.out); rintro e w73 ⟨rfl, hb⟩; have n0_ := Aside0.mk (blk_below (g := gb107) (o := .cells #[.int .i64 a0_0, .int .i64 a0_1, .slice A0_2 l0_2.length c0_2, .int .i64 a0_3, .int .i64 a0_4, .slice A0_5 l0_5.length c0_5, .slice (some ad116) l0_6.length c0_6] 28 (0, 0)) (by (with_reducible repeat (first | refine blk_drewN ?_ _ | refine blk_drew ?_ | refine blk_alloc ?_ _)); exact BK107.out) hb); have n1_ := Aside0.mk (below_step (by repeat (first | (with_reducible first | exact HB.out | apply below_alloc | apply pw_below_drewN | apply below_drew1 | refine below_set ?_ GE107.out) | exact HB.out)) hb); clear BK107; clear HB; have BK107 := n0_; have HB := n1_; clear n0_ n1_; (try clear hb); (try clear hb2); (try clear hk); (try clear hi)))
                         go_ret
                         exact ⟨by first | rfl | (simp [Nat.add_zero] <;> rfl) | (simp [*, Nat.add_zero] <;> rfl), by repeat (first | (with_reducible first | exact HB.out | apply below_alloc | apply pw_below_drewN | apply below_drew1 | refine below_set ?_ GE107.out) | exact HB.out)⟩
                       ·rw [if_neg c67] at H
                        have c67b0 : (((rd_Val l0_6 x3_5).f0) == x4_50) = false := beq_eq_false_iff_ne.mpr c67
                        have c67b1 : (((rd_Val l0_6 x3_5).f0) != x4_50) = true := bne_iff_ne.mpr c67
                        obtain rfl := Option.some.inj H
                        have hcz74_0 : wc.cell? ⟨gb107, 0, none⟩ = some (.int .i64 a0_0) := (blk_cell BK107.out 0).trans rfl
                        have hcz74_1 : wc.cell? ⟨gb107, 1, none⟩ = some (.int .i64 a0_1) := (blk_cell BK107.out 1).trans rfl
                        have hcz74_2 : wc.cell? ⟨gb107, 2, none⟩ = some (.slice A0_2 l0_2.length c0_2) := (blk_cell BK107.out 2).trans rfl
                        have hcz74_3 : wc.cell? ⟨gb107, 3, none⟩ = some (.int .i64 a0_3) := (blk_cell BK107.out 3).trans rfl
                        have hcz74_4 : wc.cell? ⟨gb107, 4, none⟩ = some (.int .i64 a0_4) := (blk_cell BK107.out 4).trans rfl
                        have hcz74_5 : wc.cell? ⟨gb107, 5, none⟩ = some (.slice A0_5 l0_5.length c0_5) := (blk_cell BK107.out 5).trans rfl
                        have hcz74_6 : wc.cell? ⟨gb107, 6, none⟩ = some (.slice A0_6 l0_6.length c0_6) := (blk_cell BK107.out 6).trans rfl
                        have hfz74_0 := blk_frozen BK107.out 0
                        have hfz74_1 := blk_frozen BK107.out 1
                        have hfz74_2 := blk_frozen BK107.out 2
                        have hfz74_3 := blk_frozen BK107.out 3
                        have hfz74_4 := blk_frozen BK107.out 4
                        have hfz74_5 := blk_frozen BK107.out 5
                        have hfz74_6 := blk_frozen BK107.out 6
                        have p116 : 0 ≤ (x3_5 : Int) := of_decide_eq_true (by first | (with_reducible assumption) | assumption)
                        have q116 : x3_5 < (l0_6.length : Int) := of_decide_eq_true (by first | (with_reducible assumption) | assumption)
                        obtain ⟨ad116, A116_2, c116_2, A116_5, c116_5, A116_6, c116_6, e116, hx116_0, hx116_1, hx116_2, hx116_3, hx116_4, hx116_5, hx116_6, hl116_2, hi116_2, hl116_5, hi116_5, hl116_6, hi116_6⟩ := at_Val HR0_6.out x3_5 p116 q116
                        cases e116
                        replace hx116_0 := (HB.out.cell (World.block_lt_of_cell? w _ hx116_0)).trans hx116_0
                        replace hx116_1 := (HB.out.cell (World.block_lt_of_cell? w _ hx116_1)).trans hx116_1
                        replace hx116_2 := (HB.out.cell (World.block_lt_of_cell? w _ hx116_2)).trans hx116_2
                        replace hx116_3 := (HB.out.cell (World.block_lt_of_cell? w _ hx116_3)).trans hx116_3
                        replace hx116_4 := (HB.out.cell (World.block_lt_of_cell? w _ hx116_4)).trans hx116_4
                        replace hx116_5 := (HB.out.cell (World.block_lt_of_cell? w _ hx116_5)).trans hx116_5
                        replace hx116_6 := (HB.out.cell (World.block_lt_of_cell? w _ hx116_6)).trans hx116_6
                        have HR116_2 := Aside0.mk hi116_2
                        have HC116_2 := Aside0.mk hl116_2
                        clear hi116_2 hl116_2
                        have HR116_5 := Aside0.mk hi116_5
                        have HC116_5 := Aside0.mk hl116_5
                        clear hi116_5 hl116_5
                        have HR116_6 := Aside0.mk hi116_6
                        have HC116_6 := Aside0.mk hl116_6
                        clear hi116_6 hl116_6
                        replace p116 := eq_true p116
                        replace q116 := eq_true q116
                        go_wp2
                        go_ret
                        exact ⟨by first | rfl | (simp [Nat.add_zero] <;> rfl) | (simp [*, Nat.add_zero] <;> rfl), by repeat (first | (with_reducible first | exact HB.out | apply below_alloc | apply pw_below_drewN | apply below_drew1 | refine below_set ?_ GE107.out) | exact HB.out)⟩
                      ·rw [if_neg c66] at H
                       exact absurd H (by simp)
                     ·rw [if_neg c65] at H
                      exact absurd H (by simp)
               ·rw [if_neg c45] at H
                have c45b0 : decide (x3_5 < (l0_6.length : Int)) = false := decide_eq_false c45
                clear c45
                obtain rfl := Option.some.inj H
                have hcz75_0 : wr.cell? ⟨gb107, 0, none⟩ = some (.int .i64 a0_0) := (blk_cell BK107.out 0).trans rfl
                have hcz75_1 : wr.cell? ⟨gb107, 1, none⟩ = some (.int .i64 a0_1) := (blk_cell BK107.out 1).trans rfl
                have hcz75_2 : wr.cell? ⟨gb107, 2, none⟩ = some (.slice A0_2 l0_2.length c0_2) := (blk_cell BK107.out 2).trans rfl
                have hcz75_3 : wr.cell? ⟨gb107, 3, none⟩ = some (.int .i64 a0_3) := (blk_cell BK107.out 3).trans rfl
                have hcz75_4 : wr.cell? ⟨gb107, 4, none⟩ = some (.int .i64 a0_4) := (blk_cell BK107.out 4).trans rfl
                have hcz75_5 : wr.cell? ⟨gb107, 5, none⟩ = some (.slice A0_5 l0_5.length c0_5) := (blk_cell BK107.out 5).trans rfl
                have hcz75_6 : wr.cell? ⟨gb107, 6, none⟩ = some (.slice A0_6 l0_6.length c0_6) := (blk_cell BK107.out 6).trans rfl
                have hfz75_0 := blk_frozen BK107.out 0
                have hfz75_1 := blk_frozen BK107.out 1
                have hfz75_2 := blk_frozen BK107.out 2
                have hfz75_3 := blk_frozen BK107.out 3
                have hfz75_4 := blk_frozen BK107.out 4
                have hfz75_5 := blk_frozen BK107.out 5
                have hfz75_6 := blk_frozen BK107.out 6
                go_wp2
                go_ret
                exact ⟨by first | rfl | (simp [Nat.add_zero] <;> rfl) | (simp [*, Nat.add_zero] <;> rfl), by repeat (first | (with_reducible first | exact HB.out | apply below_alloc | apply pw_below_drewN | apply below_drew1 | refine below_set ?_ GE107.out) | exact HB.out)⟩


end Go.Proofs.YtnpiheoglilcbaaGreatDoor

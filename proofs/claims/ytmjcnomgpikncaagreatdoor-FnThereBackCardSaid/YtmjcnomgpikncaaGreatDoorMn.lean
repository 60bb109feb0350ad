/- Single steps by both protocols. No condition. -/
import Derived.Test.YtmjcnomgpikncaaGreatDoorMc
set_option linter.unusedVariables false
set_option linter.unusedSimpArgs false
namespace Go.Proofs.YtmjcnomgpikncaaGreatDoor

open Go.RowKit Go.Deep



def Box7 (b:Nat) (x0 x1 x2 x3 x4 x5 x6:Value) (W:World):Prop :=
  W.cell? ⟨b,0,none⟩=some x0∧W.cell? ⟨b,1,none⟩=some x1∧W.cell? ⟨b,2,none⟩=some x2∧W.cell? ⟨b,3,none⟩=some x3∧W.cell? ⟨b,4,none⟩=some x4∧W.cell? ⟨b,5,none⟩=some x5∧W.cell? ⟨b,6,none⟩=some x6

theorem Box7.at_ {b:Nat} {x0 x1 x2 x3 x4 x5 x6:Value} {t:TypeId} {f:Nat × Nat} {W:World} (h:W.heap[b]?=some (.cells #[x0,x1,x2,x3,x4,x5,x6] t f)):Box7 b x0 x1 x2 x3 x4 x5 x6 W :=
  ⟨(cell_heap h 0).trans rfl,(cell_heap h 1).trans rfl,(cell_heap h 2).trans rfl,(cell_heap h 3).trans rfl,(cell_heap h 4).trans rfl,(cell_heap h 5).trans rfl,(cell_heap h 6).trans rfl⟩

theorem Box7.of {b B:Nat} {x0 x1 x2 x3 x4 x5 x6:Value} {Wa W:World} (h:Box7 b x0 x1 x2 x3 x4 x5 x6 Wa) (hB:Below B Wa W) (hb:b < B):Box7 b x0 x1 x2 x3 x4 x5 x6 W:=by
  obtain ⟨p0,p1,p2,p3,p4,p5,p6⟩:=h
  have e0:∀ i,W.cell? ⟨b,i,none⟩=Wa.cell? ⟨b,i,none⟩:=fun i=>hB.cell (p:=⟨b,i,none⟩) hb
  exact ⟨(e0 0).trans p0,(e0 1).trans p1,(e0 2).trans p2,(e0 3).trans p3,(e0 4).trans p4,(e0 5).trans p5,(e0 6).trans p6⟩

theorem Box7.proto {b:Nat} {x0 x1 x2 x3 x4 x5 x6:Value} {W:World} (h:Box7 b x0 x1 x2 x3 x4 x5 x6 W) (v:Value):Box7 b v x1 x2 x3 x4 x5 x6 (W.setCell ⟨b,0,none⟩ v):=by
  obtain ⟨p0,p1,p2,p3,p4,p5,p6⟩:=h
  have e0:∀ i,(W.setCell ⟨b,0,none⟩ v).cell? ⟨b,i+1,none⟩=W.cell? ⟨b,i+1,none⟩:=fun i=>World.cell?_setCell_other _ _ _ _ (by intro h;simp only [Addr.mk.injEq] at h;omega)
  exact ⟨World.cell?_setCell_same _ _ _ p0,(e0 0).trans p1,(e0 1).trans p2,(e0 2).trans p3,(e0 3).trans p4,(e0 4).trans p5,(e0 5).trans p6⟩

theorem Box7.other {b k:Nat} {x0 x1 x2 x3 x4 x5 x6:Value} {W:World} (h:Box7 b x0 x1 x2 x3 x4 x5 x6 W) (hk:b≠k) (i:Nat) (v:Value):Box7 b x0 x1 x2 x3 x4 x5 x6 (W.setCell ⟨k,i,none⟩ v):=by
  obtain ⟨p0,p1,p2,p3,p4,p5,p6⟩:=h
  have e0:∀ j,(W.setCell ⟨k,i,none⟩ v).cell? ⟨b,j,none⟩=W.cell? ⟨b,j,none⟩:=fun j=>World.cell?_setCell_other _ _ _ _ (by intro h;simp only [Addr.mk.injEq] at h;omega)
  exact ⟨(e0 0).trans p0,(e0 1).trans p1,(e0 2).trans p2,(e0 3).trans p3,(e0 4).trans p4,(e0 5).trans p5,(e0 6).trans p6⟩

end Go.Proofs.YtmjcnomgpikncaaGreatDoor

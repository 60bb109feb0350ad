/- Put of single values. No condition. -/
import Derived.Test.YthmkkbihfdcbiaaGreatDoorMc
import Derived.Test.YthmkkbihfdcbiaaGreatDoorMd1
import Derived.Outline
import Derived.Deep.LoopGhost
import Derived.Deep.DeepCutAuto
import Derived.Deep.CutBlock
/-! A value of a scalar type is put by whatever protocol. Printed by a program (wip/tools/puts.py). -/
namespace Go.Proofs.YthmkkbihfdcbiaaGreatDoor

open Go.RowKit Go.Deep Go.Proofs.YthmkkbihfdcbiaaGreatDoorW.PrintWords

set_option linter.unusedVariables false

set_option linter.unusedSimpArgs false

theorem runs_one {σ : Type} (run : σ → WOp → σ × Nat) (o : WOp) (s : σ) : runs run [o] s = run s o := by
  simp only [runs]
  split
  · rename_i h
    exact Prod.ext rfl h.symm
  · rfl

/-- What a call of a protocol wants and leaves, at a world that is to come. -/
theorem PW.at_ (P : PW) {S : List Nat} {s : P.σ} {w : World} (h : P.Is S s w) (o : WOp) (hb : o.isBin = false) (hf : o.fit) (hr : P.room s + o.cost ≤ 140737488355328) :
    ∀ W, Step [] [] w W → Calls Tryz.prog (P.fn o.nm) (o.argv P.ptr) W (Did P.Is S W (P.run s o)) := fun W hW =>
  P.does (P.step h hW (by simp)) o hb hf hr

theorem PW.fresh (P : PW) {S : List Nat} {s : P.σ} {w : World} (h : P.Is S s w) : w.heap.size ∉ S := fun hm => Nat.lt_irrefl _ (P.lt h _ hm)

end Go.Proofs.YthmkkbihfdcbiaaGreatDoor

/-! A value of a scalar type is put by whatever protocol. Printed by a program (wip/tools/puts.py). -/
namespace Go.Proofs.YthmkkbihfdcbiaaGreatDoor

open Go.RowKit Go.Deep Go.Proofs.YthmkkbihfdcbiaaGreatDoorW.PrintWords

set_option linter.unusedVariables false

set_option linter.unusedSimpArgs false

end Go.Proofs.YthmkkbihfdcbiaaGreatDoor

/-! Values are put, one behind the other. -/
namespace Go.Proofs.YthmkkbihfdcbiaaGreatDoor

open Go.RowKit Go.Deep Go.Proofs.YthmkkbihfdcbiaaGreatDoorW.PrintWords

set_option linter.unusedVariables false

set_option linter.unusedSimpArgs false

end Go.Proofs.YthmkkbihfdcbiaaGreatDoor

/-! A struct is put. -/
namespace Go.Proofs.YthmkkbihfdcbiaaGreatDoor

open Go.RowKit Go.Deep Go.Proofs.YthmkkbihfdcbiaaGreatDoorW.PrintWords

set_option linter.unusedVariables false

set_option linter.unusedSimpArgs false

end Go.Proofs.YthmkkbihfdcbiaaGreatDoor

/-! A value of a type that holds others is put. Printed by a program (wip/tools/putmany.py). -/
namespace Go.Proofs.YthmkkbihfdcbiaaGreatDoor

open Go.RowKit Go.Deep Go.Proofs.YthmkkbihfdcbiaaGreatDoorW.PrintWords

set_option linter.unusedVariables false

set_option linter.unusedSimpArgs false

end Go.Proofs.YthmkkbihfdcbiaaGreatDoor

/-! A value is put by whatever protocol: what it keeps, what it tells. -/
namespace Go.Proofs.YthmkkbihfdcbiaaGreatDoor

open Go.RowKit Go.Deep Go.Proofs.YthmkkbihfdcbiaaGreatDoorW.PrintWords

set_option linter.unusedVariables false

set_option linter.unusedSimpArgs false

end Go.Proofs.YthmkkbihfdcbiaaGreatDoor

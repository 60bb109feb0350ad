/- The law FnThereBack: for every input, in every memory that the row's list is met in, it returns true and leaves its input as it was: the tied card. No condition beyond the row's own. -/
import Derived.Test.YtmjcnomgpikncaaGreatDoorCards
import Derived.Test.YtmjcnomgpikncaaGreatDoorTie
import Derived.ProofKit
import Derived.OpenShut
import Derived.LaidMore
import Derived.Stop.Joined
import Derived.SevenTiedAt
import Derived.Test.YtmjcnomgpikncaaGreatDoorThereBackA
import Derived.Test.YtmjcnomgpikncaaGreatDoorThereBackC
namespace Go.Proofs.YtmjcnomgpikncaaGreatDoor.fnThereBackDone
open Go.ChangeShapes Go.WideShapes Go.ChangeAt Go.RowKit
set_option linter.unusedVariables false
set_option linter.unusedSimpArgs false

theorem said : Rows.FnThereBackSaid :=
  OpenClaim.holds_of_wide 5 Tryz.f5 rfl rfl rfl rfl rfl rfl rfl ⟨rfl, rfl, rfl, rfl, rfl⟩ rfl rfl rfl rfl rfl (by kernel_rfl) Tryz.func5 closed
    (of_decide_eq_true (by kernel_rfl)) (by unfold Func.isWrapper; first | (rw [if_pos (by decide +kernel)]; kernel_rfl) | (rw [if_neg (by decide +kernel)]; exact ⟨rfl, rfl⟩))
    (fun os started H enc _ => lifted os started H enc)

end Go.Proofs.YtmjcnomgpikncaaGreatDoor.fnThereBackDone

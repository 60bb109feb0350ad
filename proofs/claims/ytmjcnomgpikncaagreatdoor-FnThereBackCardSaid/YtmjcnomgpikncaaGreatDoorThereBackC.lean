/- The law FnThereBack: for every input, in every memory that the row's list is met in, it returns true and leaves its input as it was: the tied card. No condition beyond the row's own. -/
import Derived.Test.YtmjcnomgpikncaaGreatDoorCards
import Derived.Test.YtmjcnomgpikncaaGreatDoorTie
import Derived.ProofKit
import Derived.OpenShut
import Derived.LaidMore
import Derived.Stop.Joined
import Derived.SevenTiedAt
namespace Go.Proofs.YtmjcnomgpikncaaGreatDoor.fnThereBackDone
open Go.ChangeShapes Go.WideShapes Go.ChangeAt Go.RowKit
set_option linter.unusedVariables false
set_option linter.unusedSimpArgs false

set_option maxRecDepth 100000 in
theorem closed : joinedFacts Tryz.pinned.checked.prog 5 Tryz.f5 Rows.fnThereBackSpec Rows.fnThereBackRow = true := by kernel_rfl

end Go.Proofs.YtmjcnomgpikncaaGreatDoor.fnThereBackDone

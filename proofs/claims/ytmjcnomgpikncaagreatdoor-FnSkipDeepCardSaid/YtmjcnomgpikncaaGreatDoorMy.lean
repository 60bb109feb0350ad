/- Values are got by whatever protocol: single ones, lists, sets, maps. No condition. -/
import Derived.Test.YtmjcnomgpikncaaGreatDoorMv3
/-! The ends of lists, sets and maps are read by whatever protocol. -/
namespace Go.Proofs.YtmjcnomgpikncaaGreatDoor

open Go.RowKit Go.Deep

set_option linter.unusedVariables false

set_option linter.unusedSimpArgs false

end Go.Proofs.YtmjcnomgpikncaaGreatDoor

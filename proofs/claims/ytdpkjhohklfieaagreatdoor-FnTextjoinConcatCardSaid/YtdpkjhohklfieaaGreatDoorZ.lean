/- numeric of a text: sure, whatever its letters are. -/
import Derived.Test.YtdpkjhohklfieaaGreatDoorY
set_option linter.unusedSimpArgs false
set_option linter.unusedVariables false
namespace Go.Proofs.YtdpkjhohklfieaaGreatDoor
open Go.RowKit
set_option maxRecDepth 100000

attribute [local go_sem] undef
end Go.Proofs.YtdpkjhohklfieaaGreatDoor

/- What a medium's own line does. -/
import Derived.Test.YtcepdjlknalmnaaGreatDoorMedP
import Derived.Deep.RegionHeld3
import Derived.Deep.Cut
namespace Go.Proofs.YtcepdjlknalmnaaGreatDoor
open Go.RowKit
set_option linter.unusedSimpArgs false
set_option linter.unusedVariables false
attribute [local go_sem ↓] Go.wp_at_zero Go.wp_at_succ
end Go.Proofs.YtcepdjlknalmnaaGreatDoor

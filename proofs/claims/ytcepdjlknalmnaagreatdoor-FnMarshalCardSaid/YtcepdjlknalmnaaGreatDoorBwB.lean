/- What the line of a session's bandwidth does. -/
import Derived.Test.YtcepdjlknalmnaaGreatDoorStepG
import Derived.Test.YtcepdjlknalmnaaGreatDoorNum
import Derived.Test.YtcepdjlknalmnaaGreatDoorStepE
import Derived.Deep.RegionLaw
namespace Go.Proofs.YtcepdjlknalmnaaGreatDoor
open Go.RowKit
set_option linter.unusedSimpArgs false
set_option linter.unusedVariables false
attribute [local go_sem ↓] Go.wp_at_zero Go.wp_at_succ
end Go.Proofs.YtcepdjlknalmnaaGreatDoor

/- Times and ports. -/
import Derived.Test.YtcepdjlknalmnaaGreatDoorBwB
import Derived.Test.YtcepdjlknalmnaaGreatDoorStepG
import Derived.Test.YtcepdjlknalmnaaGreatDoorNum
import Derived.Test.YtcepdjlknalmnaaGreatDoorStepE
namespace Go.Proofs.YtcepdjlknalmnaaGreatDoor
open Go.RowKit
set_option linter.unusedSimpArgs false
set_option linter.unusedVariables false
end Go.Proofs.YtcepdjlknalmnaaGreatDoor
/- What the line of the time zones does. -/
namespace Go.Proofs.YtcepdjlknalmnaaGreatDoor
open Go.RowKit
set_option linter.unusedSimpArgs false
set_option linter.unusedVariables false
attribute [local go_sem ↓] Go.wp_at_zero Go.wp_at_succ
inductive ZonesAt (s : ByteArray) (m : Nat) : Nat → List Zon → Prop
 | nil : ZonesAt s m m []
 | cons {p m1 p1 m2 p2 : Nat} {F : Nat → Int} {z : Zon} {zs : List Zon} (h1 : p ≤ m1) (hF : Digits s p m1 F) (hz : F m1 = z.time) (hs1 : Stops s m1 p1) (h2 : p1 < m2) (hp : Plain s p1 m2) (ho : s.extract p1 m2 = mk ((Lib.itoa z.off))) (hs2 : Stops s m2 p2) (hr : ZonesAt s m p2 zs) : ZonesAt s m p (z :: zs)
end Go.Proofs.YtcepdjlknalmnaaGreatDoor
/- One more repeat of the time that is being read. -/
namespace Go.Proofs.YtcepdjlknalmnaaGreatDoor
open Go.RowKit
set_option linter.unusedSimpArgs false
set_option linter.unusedVariables false
end Go.Proofs.YtcepdjlknalmnaaGreatDoor

/- What the reader does at a line that is right: the statement, and the lines v, o, s and t. -/
import Derived.Test.YtcepdjlknalmnaaGreatDoorLks
import Derived.Test.YtcepdjlknalmnaaGreatDoorStepE
import Derived.Test.YtcepdjlknalmnaaGreatDoorSegs
namespace Go.Proofs.YtcepdjlknalmnaaGreatDoor
open Go.RowKit
set_option linter.unusedSimpArgs false
set_option linter.unusedVariables false
def StOk (l : Ln) : Prop := ∀ (B : Nat) (hB : 0 < B) (w : World) (ρ : Nat → Nat) (L D C : Nat) (s : ByteArray) (p n N : Nat) (q : Pst) (V : Vs) (a : Addr) (e : List UInt8) (h : PS B w ρ L D C s p q V) (hs : WfStr s) (hE : Eof w a) (hI : Inv n q) (hfrom : n ∈ l.from_) (hN : Small N q) (hN2 : N ≤ 1000000) (hok : LnOk l) (he : isEnd e) (hseg : Seg s p (l.body ++ e)) (hn : NextAt s (p + (l.body ++ e).length)),
 Calls Tryz.prog (ufn l) #[.pointer (some ⟨L, 0, none⟩)] w (Stepped V.pro B w L D C s (p + (l.body ++ e).length) (q.app l) (sfn l.dst))
end Go.Proofs.YtcepdjlknalmnaaGreatDoor

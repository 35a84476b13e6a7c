/- Laws of this claim. -/
import Derived.Test.YtcepdjlknalmnaaGreatDoorOrd
import Derived.Test.YtcepdjlknalmnaaGreatDoorLexB
set_option linter.unusedSimpArgs false
set_option linter.unusedVariables false
namespace Go.Proofs.YtcepdjlknalmnaaGreatDoor
open Go.RowKit
section
variable {P : Program} {ops : Array Oper} {Q : Exit -> Act -> World -> Prop} {md : Region.Mode} {S : World -> Prop} {z : Nat}
theorem tkZ (i : Nat) (C : List Nat) {oi : Oper} {v : Value} {fuel : Nat} {listed : Array Bool} {a : Act} {w : World} (hi : ops.toList[i]? = some oi)
 (hb : (Region.noSelect ops && Region.free md ops listed i && (Region.ready md ops listed).contains i && qI6 md ops listed i z C) = true)
 (hQ : ∀ c a w, Q (.panic c) (a.put oi.dst v) w -> Q (.panic c) a w) (hy : YieldsIf P ops S oi v a) (hS : S w)
 (h : qC2 P md ops Q S z fuel (listed.setIfInBounds i true) (a.put oi.dst v) w) : qC2 P md ops Q S z (fuel + 1) listed a w := by
 simp only [Bool.and_eq_true] at hb
 exact qHi C (by simpa using hi) hb.1.1.1 hb.1.1.2 hb.1.2 hb.2 hQ hy hS h
def StZ (P : Program) (md : Region.Mode) (ops : Array Oper) (Q : Exit -> Act -> World -> Prop) (S : World -> Prop) (z fuel : Nat) (listed : Array Bool) (a : Act) (w : World) (i : Nat) (o : Oper) : Prop :=
 ∀ K' : Act -> World -> Prop, Shut (∀ a w, S w -> (S w -> qC2 P md ops Q S z fuel (listed.setIfInBounds i true) a w) -> K' a w) -> if Region.wanted o (yielded ops a.tmps) = true then Oper.wp P o a w K' Q else K' (a.put o.dst undef) w
theorem qB9 (i : Nat) {o : Oper} {fuel : Nat} {listed : Array Bool} {a : Act} {w : World} (hr : Region.ready md ops listed = [i]) (ho : ops.toList[i]? = some o) (hz : i ≠ z)
 (h : StZ P md ops Q S z fuel listed a w i o) : qC2 P md ops Q S z (fuel + 1) listed a w := qFx hr (by simpa using ho) hz h
theorem qBr {o : Oper} {fuel : Nat} {listed : Array Bool} {a : Act} {w : World} (hr : Region.ready md ops listed = [z]) (ho : ops.toList[z]? = some o) (hl : Region.ready md ops (listed.setIfInBounds z true) = [])
 (h : ∀ K' : Act -> World -> Prop, Shut (∀ a w, Q .normal a w -> K' a w) -> if Region.wanted o (yielded ops a.tmps) = true then Oper.wp P o a w K' Q else K' (a.put o.dst undef) w) :
 qC2 P md ops Q S z (fuel + 1) listed a w := qH3 hr (by simpa using ho) hl h
end
theorem qEm (w : World) (l : List Value) (t : TypeId) : ∃ g w', Blk w' g l t /\ Nw w w' /\ w.heap.size <= g /\ g = w.heap.size /\ w' = w.alloc (.cells l.toArray t) :=
 ⟨_, _, Blk.made w l t, (Nw.refl w).alloc _, Nat.le_refl _, rfl, rfl⟩
end Go.Proofs.YtcepdjlknalmnaaGreatDoor

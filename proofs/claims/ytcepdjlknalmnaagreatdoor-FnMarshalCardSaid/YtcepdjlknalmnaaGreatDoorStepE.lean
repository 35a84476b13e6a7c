/- What a line does: version, name, and the lines of one text each. -/
import Derived.Test.YtcepdjlknalmnaaGreatDoorSdp
import Derived.Test.YtcepdjlknalmnaaGreatDoorPar
import Derived.Deep.RegionHeld3
namespace Go.Proofs.YtcepdjlknalmnaaGreatDoor
open Go.RowKit
set_option linter.unusedSimpArgs false
set_option linter.unusedVariables false
theorem Kp.all {R : Nat → Prop} {B : Nat} {w : World} {ρ : Nat → Nat} {q : Pst} {V : Vs} (h : Kp R B w ρ q V) (hR : ∀ i, R i → i < 4) : Kp (fun _ => False) B w ρ q V :=
 ⟨h.zero, h.info, h.uri, h.email, h.phone, h.conn, h.key, fun _ => h.bws (fun e => by have := hR _ e; omega), fun _ => h.zones (fun e => by have := hR _ e; omega), fun _ => h.sa (fun e => by have := hR _ e; omega), fun _ => h.ma (fun e => by have := hR _ e; omega),
  fun _ _ => h.times (fun e => by have := hR _ e; omega) (fun e => by have := hR _ e; omega), fun _ _ _ => h.media (fun e => by have := hR _ e; omega) (fun e => by have := hR _ e; omega) (fun e => by have := hR _ e; omega)⟩
namespace PS
variable {B : Nat} {w w' : World} {ρ ρ' : Nat → Nat} {L D C : Nat} {s : ByteArray} {p r : Nat} {q q' : Pst} {V V' : Vs}
theorem neLD (h : PS B w ρ L D C s p q V) : ¬ D = L := fun e => by have := h.rD; rw [e, h.rL] at this; cases this
theorem neLC (h : PS B w ρ L D C s p q V) : ¬ C = L := fun e => by have := h.rC; rw [e, h.rL] at this; cases this
theorem neDC (h : PS B w ρ L D C s p q V) : ¬ C = D := fun e => by have := h.rC; rw [e, h.rD] at this; cases this
theorem BL (h : PS B w ρ L D C s p q V) : B ≤ L := h.kp.zero L (by rw [h.rL]; decide)
theorem BD (h : PS B w ρ L D C s p q V) : B ≤ D := h.kp.zero D (by rw [h.rD]; decide)
theorem BC (h : PS B w ρ L D C s p q V) : B ≤ C := h.kp.zero C (by rw [h.rC]; decide)
theorem size0 (h : PS B w ρ L D C s p q V) : 0 < w.heap.size := Nat.lt_of_le_of_lt (Nat.zero_le _) h.lx.lt
theorem lex (h : PS B w ρ L D C s p q V) (hf : Fr (fun k => k = L) w w') (hx : Lx w' L (pD D) (pD C) s r) : PS B w' ρ L D C s r q V :=
 ⟨h.rL, h.rD, h.rC, h.rz, hx, h.dd.fr hf h.neLD, h.cc.fr hf h.neLC, (h.kp.keep (R' := fun i => i = 1) hf (fun k _ e => by rw [e]; exact h.rL) (fun _ e => e.elim) (by decide) (fun _ _ _ => rfl) h.kp.zero).all (fun i e => by omega), h.wfo⟩
theorem dset (h : PS B w ρ L D C s p q V) (hf : Fr (fun k => k = D) w w') (hd : Blk w' D (dCells q' V') 115) (hk : Kp (fun i => i = 2) B w' (ext ρ w.heap.size (fun _ => 0)) q V → Kp (fun _ => False) B w' (ext ρ w.heap.size (fun _ => 0)) q' V')
 (hV : V'.sa = V.sa ∧ V'.ma = V.ma) (hwf : WfStr q'.org.user ∧ WfInt .u64 q'.org.id ∧ WfInt .u64 q'.org.ver ∧ WfStr q'.org.net ∧ WfStr q'.org.addr ∧ WfStr q'.org.adr ∧ WfStr q'.name) : PS B w' (ext ρ w.heap.size (fun _ => 0)) L D C s p q' V' := by
 have e0 := h.size0
 refine ⟨by rw [ext_old h.lx.lt]; exact h.rL, by rw [ext_old h.dd.lt]; exact h.rD, by rw [ext_old h.cc.lt]; exact h.rC, by rw [ext_old e0]; exact h.rz, h.lx.fr hf (fun e => h.neLD e.symm), hd, by rw [hV.1, hV.2]; exact h.cc.fr hf h.neDC, hk ?_, hwf⟩
 refine h.kp.keep (R' := fun i => i = 2) hf (fun k _ e => by rw [e]; exact h.rD) (fun _ e => e.elim) (by decide) (fun k hk _ => ext_old hk) (fun k hk => ?_)
 rcases Nat.lt_or_ge k w.heap.size with hlt | hge
 · rw [ext_old hlt] at hk; exact h.kp.zero k hk
 · rw [ext_new hge] at hk; exact absurd rfl hk
end PS
def Stepped (P : World → Prop) (B : Nat) (w : World) (L D C : Nat) (s : ByteArray) (r : Nat) (q' : Pst) (n : Nat) (e : Ending) (w' : World) : Prop :=
 e = .returned (.tuple #[fv n, .nilIface]) ∧ (∃ ρ' V', PS B w' ρ' L D C s r q' V' ∧ V'.pro = P) ∧ Fr (fun k => B ≤ k) w w'
theorem Stepped.mk {P : World → Prop} {B : Nat} {w : World} {L D C : Nat} {s : ByteArray} {r : Nat} {q' : Pst} {n : Nat} {w' : World} {ρ' : Nat → Nat} {V' : Vs} (h : PS B w' ρ' L D C s r q' V') (hf : Fr (fun k => B ≤ k) w w') (hp : V'.pro = P := by rfl) : Stepped P B w L D C s r q' n (.returned (.tuple #[fv n, .nilIface])) w' := ⟨rfl, ⟨ρ', V', h, hp⟩, hf⟩
abbrev NextAt (s : ByteArray) (r : Nat) : Prop := r < s.size → ∃ ch, ByteAt s r ch ∧ isNl ch = false
theorem LineEnd.nl {s : ByteArray} {q r : Nat} (h : LineEnd s q r) : ∀ k, q ≤ k → k < r → ∃ ch, ByteAt s k ch ∧ isNl ch = true := by
 intro k h1 h2
 rcases h with ⟨h, rfl⟩ | ⟨h, h', rfl⟩
 · obtain rfl : k = q := by omega
   exact ⟨_, h, rfl⟩
 · rcases (show k = q ∨ k = q + 1 by omega) with rfl | rfl
   · exact ⟨_, h, rfl⟩
   · exact ⟨_, h', rfl⟩
theorem LineEnd.size {s : ByteArray} {q r : Nat} (h : LineEnd s q r) : q ≤ r ∧ r ≤ s.size := by
 have := h.lt; omega
end Go.Proofs.YtcepdjlknalmnaaGreatDoor
/- What a line of one text does. Written by a small program of this claim's own (genstep). -/
namespace Go.Proofs.YtcepdjlknalmnaaGreatDoor
open Go.RowKit
set_option linter.unusedSimpArgs false
set_option linter.unusedVariables false
theorem Blk.made' {W : World} {g : Nat} (hg : g = W.heap.size) (l : List Value) (t : TypeId) : Blk (W.alloc (.cells l.toArray t)) g l t := by
 subst hg
 exact Blk.made W l t
end Go.Proofs.YtcepdjlknalmnaaGreatDoor
/- What the lines of a URI, of a connection and of an origin do. -/
namespace Go.Proofs.YtcepdjlknalmnaaGreatDoor
open Go.RowKit
set_option linter.unusedSimpArgs false
set_option linter.unusedVariables false
attribute [local go_sem ↓] Go.wp_at_zero Go.wp_at_succ
end Go.Proofs.YtcepdjlknalmnaaGreatDoor
/- What the lines of a connection do. -/
namespace Go.Proofs.YtcepdjlknalmnaaGreatDoor
open Go.RowKit
set_option linter.unusedSimpArgs false
set_option linter.unusedVariables false
attribute [local go_sem ↓] Go.wp_at_zero Go.wp_at_succ
def inT : List ByteArray := [⟨#[73, 78]⟩]
theorem Fr.undrew {S : Nat → Prop} {w w' : World} (h : Fr S w.drew w') : Fr S w w' := ⟨h.os, h.tape, h.output, h.size, h.block⟩
theorem PS.lexN {B : Nat} {w w' : World} {ρ : Nat → Nat} {L D C : Nat} {s : ByteArray} {p r : Nat} {q : Pst} {V : Vs} (h : PS B w ρ L D C s p q V) (hf : Fr (fun k => k = L) w w') (hx : Lx w' L (pD D) (pD C) s r) : PS B w' (ext ρ w.heap.size (fun _ => 0)) L D C s r q V :=
 ⟨by rw [ext_old h.lx.lt]; exact h.rL, by rw [ext_old h.dd.lt]; exact h.rD, by rw [ext_old h.cc.lt]; exact h.rC, by rw [ext_old h.size0]; exact h.rz, hx, h.dd.fr hf h.neLD, h.cc.fr hf h.neLC,
  (h.kp.keep (R' := fun i => i = 1) hf (fun k _ e => by rw [e]; exact h.rL) (fun _ e => e.elim) (by decide) (fun _ hk _ => ext_old hk) (fun k hk => by
   rcases Nat.lt_or_ge k w.heap.size with hlt | hge
   · rw [ext_old hlt] at hk; exact h.kp.zero k hk
   · rw [ext_new hge] at hk; exact absurd rfl hk)).all (fun i e => by omega), h.wfo⟩
end Go.Proofs.YtcepdjlknalmnaaGreatDoor
/- What the origin's line does. -/
namespace Go.Proofs.YtcepdjlknalmnaaGreatDoor
open Go.RowKit
set_option linter.unusedSimpArgs false
set_option linter.unusedVariables false
attribute [local go_sem ↓] Go.wp_at_zero Go.wp_at_succ
def WfOrg (o : Org) : Prop := WfStr o.user ∧ WfInt .u64 o.id ∧ WfInt .u64 o.ver ∧ WfStr o.net ∧ WfStr o.addr ∧ WfStr o.adr
theorem PS.org {B : Nat} {w : World} {ρ : Nat → Nat} {L D C : Nat} {s : ByteArray} {p : Nat} {q : Pst} {V : Vs} (h : PS B w ρ L D C s p q V) (j : Nat) (u : Value) (o : Org) (hd : (dCells q V).set j u = dCells { q with org := o } V) (hw : WfOrg o) :
 ∃ ρ', PS B (w.setCell ⟨D, j, none⟩ u) ρ' L D C s p { q with org := o } V :=
 ⟨_, h.dset (q' := { q with org := o }) (V' := V) ((Fr.refl _ _).put _) (by rw [← hd]; exact h.dd.set j u) (fun k => ⟨k.zero, k.info, k.uri, k.email, k.phone, k.conn, k.key, fun _ => k.bws (by decide), fun _ => k.zones (by decide), fun _ => k.sa (by decide), fun _ => k.ma (by decide), fun _ _ => k.times (by decide) (by decide), fun _ _ _ => k.media (by decide) (by decide) (by decide)⟩) ⟨rfl, rfl⟩ ⟨hw.1, hw.2.1, hw.2.2.1, hw.2.2.2.1, hw.2.2.2.2.1, hw.2.2.2.2.2, h.wfo.2.2.2.2.2.2⟩⟩
def Within (B : Nat) (w : World) (L D C : Nat) (s : ByteArray) (r : Nat) (q' : Pst) (V' : Vs) (w' : World) : Prop := (∃ ρ', PS B w' ρ' L D C s r q' V') ∧ Fr (fun k => B ≤ k) w w'
theorem Within.org {B : Nat} {w w1 : World} {ρ : Nat → Nat} {L D C : Nat} {s : ByteArray} {r : Nat} {q : Pst} {V : Vs} (h : PS B w1 ρ L D C s r q V) (hf : Fr (fun k => B ≤ k) w w1) (j : Nat) (u : Value) (o : Org) (hd : (dCells q V).set j u = dCells { q with org := o } V) (hw : WfOrg o) :
 Within B w L D C s r { q with org := o } V (w1.setCell ⟨D, j, none⟩ u) := ⟨h.org j u o hd hw, hf.setCell (.inl h.BD) u⟩
theorem Within.undrew {B : Nat} {w w1 : World} {L D C : Nat} {s : ByteArray} {r : Nat} {q : Pst} {V : Vs} (h : Within B w.drew L D C s r q V w1) : Within B w L D C s r q V w1 := ⟨h.1, h.2.undrew⟩
theorem Digits.wf {s : ByteArray} {p q : Nat} {F : Nat → Int} (h : Digits s p q F) : WfInt .u64 (F q) := ⟨h.low q, by have := h.high q (Nat.le_refl _); show F q ≤ 18446744073709551615; omega⟩
end Go.Proofs.YtcepdjlknalmnaaGreatDoor

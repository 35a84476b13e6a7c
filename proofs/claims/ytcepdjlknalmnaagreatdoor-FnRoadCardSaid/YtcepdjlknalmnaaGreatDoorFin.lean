/- Laws of this claim. -/
import Derived.Test.YtcepdjlknalmnaaGreatDoorPop
set_option linter.unusedSimpArgs false
set_option linter.unusedVariables false
namespace Go.Proofs.YtcepdjlknalmnaaGreatDoor
open Go.RowKit
structure PSsnAt (w : World) (x : Ssn) (i u e p c b t z k a m : Value) : Prop where
 user : qAb x.org.user
 oid : qAg .u64 x.org.id
 over : qAg .u64 x.org.ver
 onet : qAb x.org.net
 oaddr : qAb x.org.addr
 oadr : qAb x.org.adr
 name : qAb x.name
 info : qAd.Pt w x.info i
 uri : qAd.Pt w x.uri u
 email : qAd.Pt w x.email e
 phone : qAd.Pt w x.phone p
 conn : qGw.Pt w x.conn c
 bws : qBx.Sl w x.bws b
 times : qCc.Sl w x.times t
 zones : qDt.Sl w x.zones z
 key : qAd.Pt w x.key k
 atts : qBy.Sl w x.atts a
 media : qEs.ptr.Sl w x.media m
theorem PSsnAt.loc {w w' : World} (h : ∀ k, k < w.heap.size -> w'.heap[k]? = w.heap[k]?) {x : Ssn} {i u e p c b t z k a m : Value} (s : PSsnAt w x i u e p c b t z k a m) : PSsnAt w' x i u e p c b t z k a m :=
 ⟨s.user, s.oid, s.over, s.onet, s.oaddr, s.oadr, s.name, Ty.Pt_loc h s.info, Ty.Pt_loc h s.uri, Ty.Pt_loc h s.email, Ty.Pt_loc h s.phone, Ty.Pt_loc h s.conn, Ty.Sl_loc h s.bws, Ty.Sl_loc h s.times, Ty.Sl_loc h s.zones, Ty.Pt_loc h s.key, Ty.Sl_loc h s.atts, Ty.Sl_loc h s.media⟩
def qEd (x : Ssn) (i u e p c b t z k a m : Value) : List Value := [.int .i64 x.ver, .string x.org.user, .int .u64 x.org.id, .int .u64 x.org.ver, .string x.org.net, .string x.org.addr, .string x.org.adr, .string x.name, i, u, e, p, c, b, t, z, k, a, m]
def qN5 (w : World) (D : Nat) (x : Ssn) : Prop := ∃ i u e p c b t z k a m, Blk w D (qEd x i u e p c b t z k a m) 115 /\ PSsnAt w x i u e p c b t z k a m
theorem PS.attsDone {B : Nat} {w w2 : World} {ρ : Nat -> Nat} {L D C : Nat} {s : ByteArray} {p : Nat} {q : Pst} {V : Vs} {v1 v2 : Value} (h : PS B w ρ L D C s p q V) (hl : q.atts.length <= 1000000000)
 (hC : Blk w2 C [v2, V.ma] 155) (hR : Row w2 B 199 2 v2 []) (ho : v2.ownBlock = V.sa.ownBlock) (h1 : Row w2 w.heap.size 199 2 v1 (q.atts.map qA2)) (hf : Fr (fun k => k = C) w w2) :
 PSc B (w2.setCell ⟨D, 17, none⟩ v1) (ext ρ w.heap.size (fun _ => 0)) L D C s p { q with atts := [] } { V with sa := v2 } ((qCg q V).set 17 v1) /\ qAq (fun W => qBy.Sl W q.atts v1) (w2.setCell ⟨D, 17, none⟩ v1) (fun k => ext ρ w.heap.size (fun _ => 0) k = 0) /\ Fr (fun k => k = C ∨ k = D) w (w2.setCell ⟨D, 17, none⟩ v1) := by
 have hDlt := h.dd.lt
 have hown : ∀ k, v2.ownBlock = some k -> ρ k = 6 /\ k < w.heap.size := fun k hk => ⟨(h.kp.sa (fun e => e)).2 k (by rw [<- ho, hk]), (qAo.base (h.kp.sa (fun e => e)).1 k (by rw [<- ho, hk])).2⟩
 have hF : Fr (fun k => k = C ∨ k = D) w (w2.setCell ⟨D, 17, none⟩ v1) := (hf.mono (fun k _ e => .inl e)).setCell (.inl (.inr rfl)) _
 have hS : ∀ k, k < w.heap.size -> (k = C ∨ k = D) -> ρ k = 3 ∨ ρ k = 2 := fun k _ e => e.imp (fun e => by rw [e]; exact h.rC) (fun e => by rw [e]; exact h.rD)
 have hz : ∀ k, ¬ ext ρ w.heap.size (fun _ => 0) k = 0 -> B <= k := fun k hk => by
  rcases Nat.lt_or_ge k w.heap.size with hlt | hge
  · rw [qAz hlt] at hk; exact h.kp.zero k hk
  rw [qCm hge] at hk; exact absurd rfl hk
 have hk := h.kp.keep (R' := fun i => i = 2 ∨ i = 3 ∨ i = 6) (ρ' := ext ρ w.heap.size (fun _ => 0)) hF (fun k hk e => by have := hS k hk e; omega) (fun _ e => e.elim) (by decide) (fun k hk _ => qAz hk) hz
 have hn1 : ∀ k, v1.ownBlock = some k -> ¬ k = D := fun k hk e => by have := (h1.base k hk).1; omega
 have hR3 := hR.fr (Fr.self (p := ⟨D, 17, none⟩) v1) (fun k hk e => by
  have e' : k = D := e
  have := (hown k hk).1
  rw [e', h.rD] at this; cases this)
 refine ⟨⟨by rw [qAz h.lx.lt]; exact h.rL, by rw [qAz h.dd.lt]; exact h.rD, by rw [qAz h.cc.lt]; exact h.rC, by rw [qAz h.size0]; exact h.rz, h.lx.fr hF (fun e => by have := hS L h.lx.lt e; rw [h.rL] at this; omega),
  (h.dd.fr hf (fun e => h.neDC e.symm)).set 17 v1, Blk.other hC h.neDC _, ?_, h.wfo⟩, ?_, hF⟩
 · exact ⟨hk.zero, hk.info, hk.uri, hk.email, hk.phone, hk.conn, hk.key, fun _ => hk.bws (by decide), fun _ => hk.zones (by decide), fun _ => ⟨⟨[], hR3, rfl, fun i x r hx => by simp at hx⟩, fun k hk => by rw [qAz (hown k hk).2]; exact (hown k hk).1⟩, fun _ => hk.ma (by decide), fun _ _ => hk.times (by decide) (by decide), fun _ _ _ => hk.media (by decide) (by decide) (by decide)⟩
 intro W hW
 have h3 := h1.fr (Fr.self (p := ⟨D, 17, none⟩) v1) (fun k hk e => hn1 k hk e)
 have hRW : Row W w.heap.size 199 2 v1 (q.atts.map qA2) := h3.move (fun k hk => hW k (qCm (h3.base k hk).1) (h3.base k hk).2)
 exact Row.slFlat (enc := qA2) (hl := fun _ => rfl) hRW (show q.atts.length <= 140737488355328 by omega) (qAo.toFlat (h.kp.sa (fun e => e)).1).2
theorem qJz {α : Type} {a b : List α} {i : Nat} {x : α} (h : (a ++ b)[i]? = some x) : (i < a.length /\ a[i]? = some x) ∨ (∃ j, i = a.length + j /\ b[j]? = some x) := by
 rcases Nat.lt_or_ge i a.length with hlt | hge
 · rw [List.getElem?_append_left hlt] at h; exact .inl ⟨hlt, h⟩
 rw [List.getElem?_append_right hge] at h; exact .inr ⟨i - a.length, by omega, h⟩
theorem PopS.done {B : Nat} {w4 : World} {ρ : Nat -> Nat} {L D C : Nat} {s : ByteArray} {p : Nat} {q q' : Pst} {V V' : Vs} {v1 : Value} {cs : List Value} (h : PopS B w4 ρ L D C s p q V cs) (hq : q.mc = none)
 (hcs : cs = qEd { q.fin with atts := q'.atts } V.info V.uri V.email V.phone V.conn V.bws V.times V.zones V.key v1 V.m.media) (ha : qBy.Sl w4 q'.atts v1) {N : Nat} (hN : Small N q) (hN2 : N <= 1000000000) : qN5 w4 D { q.fin with atts := q'.atts } := by
 obtain ⟨rows, hM, _, hl, hd⟩ := h.med
 obtain ⟨trows, hT⟩ := h.kp.times (by decide) (by decide)
 have hb := hN.bws
 have hz := hN.zones
 have htd := hN.td
 have hmd := hN.md
 have hlen := hT.len
 have htl : q.tc.toList.length <= 1 := by cases q.tc <;> simp
 refine ⟨V.info, V.uri, V.email, V.phone, V.conn, V.bws, V.times, V.zones, V.key, v1, V.m.media, by rw [<- hcs]; exact h.dd, ?_⟩
 refine ⟨h.wfo.1, h.wfo.2.1, h.wfo.2.2.1, h.wfo.2.2.2.1, h.wfo.2.2.2.2.1, h.wfo.2.2.2.2.2.1, h.wfo.2.2.2.2.2.2, h.kp.info.now.1, h.kp.uri.now, h.kp.email.now, h.kp.phone.now, h.kp.conn.now, ((h.kp.bws (by decide)).foot (by omega)).now, ?_, ((h.kp.zones (by decide)).foot (by omega)).now, h.kp.key.now, ha, ?_⟩
 · refine Row.sl (T := qCc) hT.row (by rw [hlen]; simp [Pst.fin]) (by omega) (fun k x r hx hr => ?_)
   rcases qJz (show (q.td ++ q.tc.toList)[k]? = some x from hx) with ⟨_, h1⟩ | ⟨j, rfl, h1⟩
   · exact (hT.done k x r h1 hr).now
   cases hc : q.tc with
   | none => rw [hc] at h1; simp at h1
   | some t =>
    rw [hc] at h1
    have hj : j = 0 := by have := (List.getElem?_eq_some_iff.1 h1).1; simp at this; omega
    subst hj
    obtain rfl : t = x := by simpa using h1
    obtain ⟨l1, l2, l3, l4⟩ := hT.last t hc
    rw [Nat.add_zero, l1] at hr
    obtain rfl := Option.some.inj hr
    have := hN.reps t hc
    exact ⟨V.reps, rfl, l2, l3, (l4.foot (by omega)).now⟩
 have hf : q.fin.media = q.md := by simp [Pst.fin, hq]
 show qEs.ptr.Sl w4 q.fin.media V.m.media
 rw [hf]
 exact Row.sl (T := qEs.ptr) hM hl.symm (by omega) (fun k x r hx hr => (hd k x r hx hr).now)
end Go.Proofs.YtcepdjlknalmnaaGreatDoor

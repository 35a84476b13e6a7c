/- Laws of this claim. -/
import Derived.Test.YtcepdjlknalmnaaGreatDoorSdp
import Derived.Test.YtcepdjlknalmnaaGreatDoorPar
set_option linter.unusedSimpArgs false
set_option linter.unusedVariables false
namespace Go.Proofs.YtcepdjlknalmnaaGreatDoor
open Tryz
open Lib (hid)
open Go.RowKit
theorem qFs {α : Type} {T : Ty α} {w : World} {b : Nat} {x : α} {cs : List Value} {t : TypeId} {ok : Nat -> Prop} (hb : Blk w b cs t) (hok : ok b) (hr : qAq (fun W => T.rel W x cs) w ok) : qAq (fun W => T.Pt W [x] (.pointer (some ⟨b, 0, none⟩))) w ok :=
 fun W hW => .inr ⟨x, b, rfl, rfl, Ty.At_blk (hr W hW) (show Blk W b cs t from (hW b hok hb.lt).trans hb)⟩
theorem qE8 {w : World} {x : ByteArray} {ok : Nat -> Prop} (h : qAb x) : qAq (fun W => qAd.rel W x [.string x]) w ok := fun _ _ => ⟨rfl, h⟩
theorem Kp.all {R : Nat -> Prop} {B : Nat} {w : World} {ρ : Nat -> Nat} {q : Pst} {V : Vs} (h : Kp R B w ρ q V) (hR : ∀ i, R i -> i < 4) : Kp (fun _ => False) B w ρ q V :=
 ⟨h.zero, h.info, h.uri, h.email, h.phone, h.conn, h.key, fun _ => h.bws (fun e => by have := hR _ e; omega), fun _ => h.zones (fun e => by have := hR _ e; omega), fun _ => h.sa (fun e => by have := hR _ e; omega), fun _ => h.ma (fun e => by have := hR _ e; omega),
  fun _ _ => h.times (fun e => by have := hR _ e; omega) (fun e => by have := hR _ e; omega), fun _ _ _ => h.media (fun e => by have := hR _ e; omega) (fun e => by have := hR _ e; omega) (fun e => by have := hR _ e; omega)⟩
namespace PS
variable {B : Nat} {w w' : World} {ρ ρ' : Nat -> Nat} {L D C : Nat} {s : ByteArray} {p r : Nat} {q q' : Pst} {V V' : Vs}
theorem neLD (h : PS B w ρ L D C s p q V) : ¬ D = L := fun e => by have := h.rD; rw [e, h.rL] at this; cases this
theorem neLC (h : PS B w ρ L D C s p q V) : ¬ C = L := fun e => by have := h.rC; rw [e, h.rL] at this; cases this
theorem neDC (h : PS B w ρ L D C s p q V) : ¬ C = D := fun e => by have := h.rC; rw [e, h.rD] at this; cases this
theorem BL (h : PS B w ρ L D C s p q V) : B <= L := h.kp.zero L (by rw [h.rL]; decide)
theorem BD (h : PS B w ρ L D C s p q V) : B <= D := h.kp.zero D (by rw [h.rD]; decide)
theorem BC (h : PS B w ρ L D C s p q V) : B <= C := h.kp.zero C (by rw [h.rC]; decide)
theorem size0 (h : PS B w ρ L D C s p q V) : 0 < w.heap.size := Nat.lt_of_le_of_lt (Nat.zero_le _) h.lx.lt
theorem lex (h : PS B w ρ L D C s p q V) (hf : Fr (fun k => k = L) w w') (hx : Lx w' L (pD D) (pD C) s r) : PS B w' ρ L D C s r q V :=
 ⟨h.rL, h.rD, h.rC, h.rz, hx, h.dd.fr hf h.neLD, h.cc.fr hf h.neLC, (h.kp.keep (R' := fun i => i = 1) hf (fun k _ e => by rw [e]; exact h.rL) (fun _ e => e.elim) (by decide) (fun _ _ _ => rfl) h.kp.zero).all (fun i e => by omega), h.wfo⟩
theorem dset (h : PS B w ρ L D C s p q V) (hf : Fr (fun k => k = D) w w') (hd : Blk w' D (qCg q' V') 115) (hk : Kp (fun i => i = 2) B w' (ext ρ w.heap.size (fun _ => 0)) q V -> Kp (fun _ => False) B w' (ext ρ w.heap.size (fun _ => 0)) q' V')
 (hV : V'.sa = V.sa /\ V'.ma = V.ma) (hwf : qAb q'.org.user /\ qAg .u64 q'.org.id /\ qAg .u64 q'.org.ver /\ qAb q'.org.net /\ qAb q'.org.addr /\ qAb q'.org.adr /\ qAb q'.name) : PS B w' (ext ρ w.heap.size (fun _ => 0)) L D C s p q' V' := by
 have e0 := h.size0
 refine ⟨by rw [qAz h.lx.lt]; exact h.rL, by rw [qAz h.dd.lt]; exact h.rD, by rw [qAz h.cc.lt]; exact h.rC, by rw [qAz e0]; exact h.rz, h.lx.fr hf (fun e => h.neLD e.symm), hd, by rw [hV.1, hV.2]; exact h.cc.fr hf h.neDC, hk ?_, hwf⟩
 refine h.kp.keep (R' := fun i => i = 2) hf (fun k _ e => by rw [e]; exact h.rD) (fun _ e => e.elim) (by decide) (fun k hk _ => qAz hk) (fun k hk => ?_)
 rcases Nat.lt_or_ge k w.heap.size with hlt | hge
 · rw [qAz hlt] at hk; exact h.kp.zero k hk
 rw [qCm hge] at hk; exact absurd rfl hk
end PS
def qAr (P : World -> Prop) (B : Nat) (w : World) (L D C : Nat) (s : ByteArray) (r : Nat) (q' : Pst) (n : Nat) (e : Ending) (w' : World) : Prop :=
 e = .returned (.tuple #[fv n, .nilIface]) /\ (∃ ρ' V', PS B w' ρ' L D C s r q' V' /\ V'.pro = P) /\ Fr (fun k => B <= k) w w'
theorem qAr.mk {P : World -> Prop} {B : Nat} {w : World} {L D C : Nat} {s : ByteArray} {r : Nat} {q' : Pst} {n : Nat} {w' : World} {ρ' : Nat -> Nat} {V' : Vs} (h : PS B w' ρ' L D C s r q' V') (hf : Fr (fun k => B <= k) w w') (hp : V'.pro = P := by rfl) : qAr P B w L D C s r q' n (.returned (.tuple #[fv n, .nilIface])) w' := ⟨rfl, ⟨ρ', V', h, hp⟩, hf⟩
abbrev NextAt (s : ByteArray) (r : Nat) : Prop := r < s.size -> ∃ ch, qAe s r ch /\ qDm ch = false
theorem qA5.nl {s : ByteArray} {q r : Nat} (h : qA5 s q r) : ∀ k, q <= k -> k < r -> ∃ ch, qAe s k ch /\ qDm ch = true := by
 intro k h1 h2
 rcases h with ⟨h, rfl⟩ | ⟨h, h', rfl⟩
 · obtain rfl : k = q := by omega
   exact ⟨_, h, rfl⟩
 rcases (show k = q ∨ k = q + 1 by omega) with rfl | rfl
 · exact ⟨_, h, rfl⟩
 exact ⟨_, h', rfl⟩
theorem qA5.stops {s : ByteArray} {q r : Nat} (h : qA5 s q r) : qCl s q q := by
 rcases h with ⟨h, rfl⟩ | ⟨h, h', rfl⟩
 · exact ⟨_, h, .inl ⟨rfl, rfl⟩⟩
 exact ⟨_, h, .inl ⟨rfl, rfl⟩⟩
theorem qA5.size {s : ByteArray} {q r : Nat} (h : qA5 s q r) : q <= r /\ r <= s.size := by
 have := h.lt; omega
theorem qAs {s : ByteArray} (p q : Nat) (hs : qAb s) : qAb (s.extract p q) := by
 unfold qAb at hs ⊢
 rw [ByteArray.size_extract]
 omega
set_option maxRecDepth 100000 in
theorem step_lv (B : Nat) (w : World) (ρ : Nat -> Nat) (L D C : Nat) (s : ByteArray) (p m r : Nat) (q : Pst) (V : Vs) (a : Addr) (F : Nat -> Int) (h : PS B w ρ L D C s p q V) (hs : qAb s) (hE : Eof w a) (hpm : p <= m) (hF : Digits s p m F) (hz : F m = 0) (hle : qA5 s m r) (hn : NextAt s r) :
 Calls prog 121 #[.pointer (some ⟨L, 0, none⟩)] w (qAr V.pro B w L D C s r q 146) := by
 have hl0 := h.lne
 have hsz := hle.size
 go_enter func121, ntmps121
 go_wp2_with (first | (go_at_call 144; (with_reducible refine (qBd L _ _ s p m m F a _ h.lx hs hE hl0 hpm hF hle.stops).mono ?_); rintro e w1 ⟨rfl, hx1, hf1⟩; have hE1 : Eof w1 a := hE.fr hf1 (fun e => hl0 e.symm)) | (go_at_call 145; (with_reducible refine (qCe L _ _ s m r a _ hx1 hs hE1 hl0 hsz.1 hsz.2 hle.nl hn).mono ?_); rintro e w2 ⟨rfl, hx2, hf2⟩))
 go_ret2
 have hf : Fr (fun k => k = L) w w2 := hf1.trans (hf2.mono (fun k _ e => .inl e))
 exact qAr.mk (h.lex hf hx2) (hf.mono (fun k _ e => e ▸ h.BL))
end Go.Proofs.YtcepdjlknalmnaaGreatDoor
/- What a line of one text does. Written by a small program of this claim's own (genstep). -/
namespace Go.Proofs.YtcepdjlknalmnaaGreatDoor
open Tryz
open Lib (hid)
open Go.RowKit
theorem Blk.made' {W : World} {g : Nat} (hg : g = W.heap.size) (l : List Value) (t : TypeId) : Blk (W.alloc (.cells l.toArray t)) g l t := by
 subst hg
 exact Blk.made W l t
theorem step_ls (B : Nat) (w : World) (ρ : Nat -> Nat) (L D C : Nat) (s : ByteArray) (p m r : Nat) (q : Pst) (V : Vs) (h : PS B w ρ L D C s p q V) (hs : qAb s) (hpm : p <= m) (hW : Whole s p m) (hle : qA5 s m r) :
 Calls prog 202 #[.pointer (some ⟨L, 0, none⟩)] w (qAr V.pro B w L D C s r (q.app (.ls (s.extract p m))) 214) := by
 obtain ⟨x, hx⟩ : ∃ x, x = s.extract p m := ⟨_, rfl⟩
 have hwx : qAb x := by rw [hx]; exact qAs _ _ hs
 have HX := hid hx
 clear hx
 go_enter func202, ntmps202
 go_wp2_with (go_at_call 213; (with_reducible refine (qBk L _ _ s p m r _ h.lx hs hpm hW hle).mono ?_); rw [<- HX.out]; rintro e w1 ⟨rfl, hx1, hf1⟩; have h1 := h.lex hf1 hx1; have l0 := h1.lx.cell 0 rfl; have d7 := h1.dd.cell 7 rfl; have f7 := h1.dd.fz 7; unfold pD at l0)
 go_ret2
 rw [<- HX.out]
 exact qAr.mk (h1.dset (q' := { q with name := x }) (V' := V) (by (apply_rules [Fr.refl, Fr.drew, Fr.drewN, Fr.alloc, Fr.put])) (h1.dd.set 7 _) (fun k => ⟨k.zero, k.info, k.uri, k.email, k.phone, k.conn, k.key, fun _ => k.bws (by decide), fun _ => k.zones (by decide), fun _ => k.sa (by decide), fun _ => k.ma (by decide), fun _ _ => k.times (by decide) (by decide), fun _ _ _ => k.media (by decide) (by decide) (by decide)⟩) ⟨rfl, rfl⟩ ⟨h.wfo.1, h.wfo.2.1, h.wfo.2.2.1, h.wfo.2.2.2.1, h.wfo.2.2.2.2.1, h.wfo.2.2.2.2.2.1, hwx⟩)
  ((hf1.mono (fun k _ e => e ▸ h.BL)).trans ((Fr.refl _ _).setCell (.inl (.inl h.BD)) _))
set_option maxRecDepth 100000 in
theorem step_li (B : Nat) (w : World) (ρ : Nat -> Nat) (L D C : Nat) (s : ByteArray) (p m r : Nat) (q : Pst) (V : Vs) (h : PS B w ρ L D C s p q V) (hs : qAb s) (hpm : p <= m) (hW : Whole s p m) (hle : qA5 s m r) :
 Calls prog 217 #[.pointer (some ⟨L, 0, none⟩)] w (qAr V.pro B w L D C s r (q.app (.li (s.extract p m))) 224) := by
 obtain ⟨x, hx⟩ : ∃ x, x = s.extract p m := ⟨_, rfl⟩
 have hwx : qAb x := by rw [hx]; exact qAs _ _ hs
 have HX := hid hx
 clear hx
 go_enter func217, ntmps217
 go_wp2_with (go_at_call 213; (with_reducible refine (qBk L _ _ s p m r _ h.lx hs hpm hW hle).mono ?_); rw [<- HX.out]; rintro e w1 ⟨rfl, hx1, hf1⟩; have h1 := h.lex hf1 hx1; have l0 := h1.lx.cell 0 rfl; have d7 := h1.dd.cell 8 rfl; have f7 := h1.dd.fz 8; have nl := h1.lx.lt; have nd := h1.dd.lt; unfold pD at l0)
 go_ret2
 rw [<- HX.out]
 have e1 : (w1.setCell ⟨D, 8, none⟩ (.pointer (some ⟨w1.heap.size, 0, none⟩))).heap.size = w1.heap.size := by simp [World.setCell]
 exact qAr.mk (h1.dset (q' := { q with info := [x] }) (V' := { V with info := .pointer (some ⟨w1.heap.size, 0, none⟩) }) (by (apply_rules [Fr.refl, Fr.drew, Fr.drewN, Fr.alloc, Fr.put])) ((h1.dd.set 8 _).alloc _) (fun k => ⟨k.zero, (qFs (Blk.made' e1.symm [.string x] 162) (qCm (Nat.le_refl _)) (qE8 hwx)).and (k.info.imp (fun _ h => h.2)), k.uri, k.email, k.phone, k.conn, k.key, fun _ => k.bws (by decide), fun _ => k.zones (by decide), fun _ => k.sa (by decide), fun _ => k.ma (by decide), fun _ _ => k.times (by decide) (by decide), fun _ _ _ => k.media (by decide) (by decide) (by decide)⟩) ⟨rfl, rfl⟩ h.wfo)
  ((hf1.mono (fun k _ e => e ▸ h.BL)).trans (((Fr.refl _ _).setCell (.inl (.inl h.BD)) _).alloc _))
set_option maxRecDepth 100000 in
theorem step_le (B : Nat) (w : World) (ρ : Nat -> Nat) (L D C : Nat) (s : ByteArray) (p m r : Nat) (q : Pst) (V : Vs) (h : PS B w ρ L D C s p q V) (hs : qAb s) (hpm : p <= m) (hW : Whole s p m) (hle : qA5 s m r) :
 Calls prog 219 #[.pointer (some ⟨L, 0, none⟩)] w (qAr V.pro B w L D C s r (q.app (.le (s.extract p m))) 227) := by
 obtain ⟨x, hx⟩ : ∃ x, x = s.extract p m := ⟨_, rfl⟩
 have hwx : qAb x := by rw [hx]; exact qAs _ _ hs
 have HX := hid hx
 clear hx
 go_enter func219, ntmps219
 go_wp2_with (go_at_call 213; (with_reducible refine (qBk L _ _ s p m r _ h.lx hs hpm hW hle).mono ?_); rw [<- HX.out]; rintro e w1 ⟨rfl, hx1, hf1⟩; have h1 := h.lex hf1 hx1; have l0 := h1.lx.cell 0 rfl; have d7 := h1.dd.cell 10 rfl; have f7 := h1.dd.fz 10; have nl := h1.lx.lt; have nd := h1.dd.lt; unfold pD at l0)
 go_ret2
 rw [<- HX.out]
 have e1 : (w1.setCell ⟨D, 10, none⟩ (.pointer (some ⟨w1.heap.size, 0, none⟩))).heap.size = w1.heap.size := by simp [World.setCell]
 exact qAr.mk (h1.dset (q' := { q with email := [x] }) (V' := { V with email := .pointer (some ⟨w1.heap.size, 0, none⟩) }) (by (apply_rules [Fr.refl, Fr.drew, Fr.drewN, Fr.alloc, Fr.put])) ((h1.dd.set 10 _).alloc _) (fun k => ⟨k.zero, k.info, k.uri, qFs (Blk.made' e1.symm [.string x] 165) (qCm (Nat.le_refl _)) (qE8 hwx), k.phone, k.conn, k.key, fun _ => k.bws (by decide), fun _ => k.zones (by decide), fun _ => k.sa (by decide), fun _ => k.ma (by decide), fun _ _ => k.times (by decide) (by decide), fun _ _ _ => k.media (by decide) (by decide) (by decide)⟩) ⟨rfl, rfl⟩ h.wfo)
  ((hf1.mono (fun k _ e => e ▸ h.BL)).trans (((Fr.refl _ _).setCell (.inl (.inl h.BD)) _).alloc _))
set_option maxRecDepth 100000 in
theorem step_lp (B : Nat) (w : World) (ρ : Nat -> Nat) (L D C : Nat) (s : ByteArray) (p m r : Nat) (q : Pst) (V : Vs) (h : PS B w ρ L D C s p q V) (hs : qAb s) (hpm : p <= m) (hW : Whole s p m) (hle : qA5 s m r) :
 Calls prog 220 #[.pointer (some ⟨L, 0, none⟩)] w (qAr V.pro B w L D C s r (q.app (.lp (s.extract p m))) 228) := by
 obtain ⟨x, hx⟩ : ∃ x, x = s.extract p m := ⟨_, rfl⟩
 have hwx : qAb x := by rw [hx]; exact qAs _ _ hs
 have HX := hid hx
 clear hx
 go_enter func220, ntmps220
 go_wp2_with (go_at_call 213; (with_reducible refine (qBk L _ _ s p m r _ h.lx hs hpm hW hle).mono ?_); rw [<- HX.out]; rintro e w1 ⟨rfl, hx1, hf1⟩; have h1 := h.lex hf1 hx1; have l0 := h1.lx.cell 0 rfl; have d7 := h1.dd.cell 11 rfl; have f7 := h1.dd.fz 11; have nl := h1.lx.lt; have nd := h1.dd.lt; unfold pD at l0)
 go_ret2
 rw [<- HX.out]
 have e1 : (w1.setCell ⟨D, 11, none⟩ (.pointer (some ⟨w1.heap.size, 0, none⟩))).heap.size = w1.heap.size := by simp [World.setCell]
 exact qAr.mk (h1.dset (q' := { q with phone := [x] }) (V' := { V with phone := .pointer (some ⟨w1.heap.size, 0, none⟩) }) (by (apply_rules [Fr.refl, Fr.drew, Fr.drewN, Fr.alloc, Fr.put])) ((h1.dd.set 11 _).alloc _) (fun k => ⟨k.zero, k.info, k.uri, k.email, qFs (Blk.made' e1.symm [.string x] 167) (qCm (Nat.le_refl _)) (qE8 hwx), k.conn, k.key, fun _ => k.bws (by decide), fun _ => k.zones (by decide), fun _ => k.sa (by decide), fun _ => k.ma (by decide), fun _ _ => k.times (by decide) (by decide), fun _ _ _ => k.media (by decide) (by decide) (by decide)⟩) ⟨rfl, rfl⟩ h.wfo)
  ((hf1.mono (fun k _ e => e ▸ h.BL)).trans (((Fr.refl _ _).setCell (.inl (.inl h.BD)) _).alloc _))
set_option maxRecDepth 100000 in
theorem step_lk (B : Nat) (w : World) (ρ : Nat -> Nat) (L D C : Nat) (s : ByteArray) (p m r : Nat) (q : Pst) (V : Vs) (h : PS B w ρ L D C s p q V) (hs : qAb s) (hpm : p <= m) (hW : Whole s p m) (hle : qA5 s m r) :
 Calls prog 243 #[.pointer (some ⟨L, 0, none⟩)] w (qAr V.pro B w L D C s r (q.app (.lk (s.extract p m))) 253) := by
 obtain ⟨x, hx⟩ : ∃ x, x = s.extract p m := ⟨_, rfl⟩
 have hwx : qAb x := by rw [hx]; exact qAs _ _ hs
 have HX := hid hx
 clear hx
 go_enter func243, ntmps243
 go_wp2_with (go_at_call 213; (with_reducible refine (qBk L _ _ s p m r _ h.lx hs hpm hW hle).mono ?_); rw [<- HX.out]; rintro e w1 ⟨rfl, hx1, hf1⟩; have h1 := h.lex hf1 hx1; have l0 := h1.lx.cell 0 rfl; have d7 := h1.dd.cell 16 rfl; have f7 := h1.dd.fz 16; have nl := h1.lx.lt; have nd := h1.dd.lt; unfold pD at l0)
 go_ret2
 rw [<- HX.out]
 have e1 : (w1.setCell ⟨D, 16, none⟩ (.pointer (some ⟨w1.heap.size, 0, none⟩))).heap.size = w1.heap.size := by simp [World.setCell]
 exact qAr.mk (h1.dset (q' := { q with key := [x] }) (V' := { V with key := .pointer (some ⟨w1.heap.size, 0, none⟩) }) (by (apply_rules [Fr.refl, Fr.drew, Fr.drewN, Fr.alloc, Fr.put])) ((h1.dd.set 16 _).alloc _) (fun k => ⟨k.zero, k.info, k.uri, k.email, k.phone, k.conn, qFs (Blk.made' e1.symm [.string x] 171) (qCm (Nat.le_refl _)) (qE8 hwx), fun _ => k.bws (by decide), fun _ => k.zones (by decide), fun _ => k.sa (by decide), fun _ => k.ma (by decide), fun _ _ => k.times (by decide) (by decide), fun _ _ _ => k.media (by decide) (by decide) (by decide)⟩) ⟨rfl, rfl⟩ h.wfo)
  ((hf1.mono (fun k _ e => e ▸ h.BL)).trans (((Fr.refl _ _).setCell (.inl (.inl h.BD)) _).alloc _))
end Go.Proofs.YtcepdjlknalmnaaGreatDoor
/- What the lines of a URI, of a connection and of an origin do. -/
namespace Go.Proofs.YtcepdjlknalmnaaGreatDoor
open Tryz
open Lib (hid)
open Go.RowKit
attribute [local go_sem ↓] Go.wp_at_zero Go.wp_at_succ
theorem qKy (x : ByteArray) (w : World) : Calls prog 225 #[.string x] w fun e w' => e = .returned (.tuple #[.pointer (some ⟨w.heap.size, 0, none⟩), .nilIface]) /\ w' = w.alloc (.cells #[.string x] 212) := by
 go_enter func225, ntmps225
 go_wp2
 go_ret2
 exact ⟨rfl, rfl⟩
set_option maxRecDepth 100000 in
theorem step_lu (B : Nat) (w : World) (ρ : Nat -> Nat) (L D C : Nat) (s : ByteArray) (p m r : Nat) (q : Pst) (V : Vs) (h : PS B w ρ L D C s p q V) (hs : qAb s) (hpm : p <= m) (hW : Whole s p m) (hle : qA5 s m r) :
 Calls prog 218 #[.pointer (some ⟨L, 0, none⟩)] w (qAr V.pro B w L D C s r (q.app (.lu (s.extract p m))) 226) := by
 obtain ⟨x, hx⟩ : ∃ x, x = s.extract p m := ⟨_, rfl⟩
 have hwx : qAb x := by rw [hx]; exact qAs _ _ hs
 have HX := hid hx
 clear hx
 go_enter func218, ntmps218
 go_wp2_with (go_at_call 213; (with_reducible refine (qBk L _ _ s p m r _ h.lx hs hpm hW hle).mono ?_); rw [<- HX.out]; rintro e w1 ⟨rfl, hx1, hf1⟩; have h1 := h.lex hf1 hx1; have l0 := h1.lx.cell 0 rfl; have d7 := h1.dd.cell 9 rfl; have f7 := h1.dd.fz 9; have nl := h1.lx.lt; have nd := h1.dd.lt; unfold pD at l0)
 have d8 : (w1.alloc (.cells #[.string x] 212)).cell? ⟨D, 9, none⟩ = some V.uri := (h1.dd.alloc _).cell 9 rfl
 have n1 : ¬ D = L := h1.neLD
 have n2 : ¬ L = D := fun e => n1 e.symm
 have f8 : (w1.alloc (.cells #[.string x] 212)).frozen? ⟨D, 9, none⟩ = false := (h1.dd.alloc _).fz 9
 go_region_held3 (fun w' => w'.cell? ⟨L, 0, none⟩ = some (.pointer (some ⟨D, 0, none⟩))) (go_keep) (first | (go_at_call 225; (with_reducible refine (qKy _ _).mono ?_); rintro e w' ⟨rfl, rfl⟩))
 go_wp2
 go_ret2
 rw [<- HX.out]
 have e1 : (w1.setCell ⟨D, 9, none⟩ (.pointer (some ⟨w1.heap.size, 0, none⟩))).heap.size = w1.heap.size := by simp [World.setCell]
 exact qAr.mk (h1.dset (q' := { q with uri := [x] }) (V' := { V with uri := .pointer (some ⟨w1.heap.size, 0, none⟩) }) (by (apply_rules [Fr.refl, Fr.drew, Fr.drewN, Fr.alloc, Fr.put])) ((h1.dd.set 9 _).alloc _).drew (fun k => ⟨k.zero, k.info, qFs (Blk.made' e1.symm [.string x] 212).drew (qCm (Nat.le_refl _)) (qE8 hwx), k.email, k.phone, k.conn, k.key, fun _ => k.bws (by decide), fun _ => k.zones (by decide), fun _ => k.sa (by decide), fun _ => k.ma (by decide), fun _ _ => k.times (by decide) (by decide), fun _ _ _ => k.media (by decide) (by decide) (by decide)⟩) ⟨rfl, rfl⟩ h.wfo)
  (((hf1.mono (fun k _ e => e ▸ h.BL)).trans (((Fr.refl _ _).setCell (.inl (.inl h.BD)) _).alloc _)).drew)
theorem qPx (s : ByteArray) (xs : List ByteArray) : qDb s xs = xs.any (fun x => s.toList == x.toList) := by
 unfold qDb
 congr 1
 funext x
 exact Bool.beq_comm
theorem qPy (s : ByteArray) (xs : List ByteArray) (v : Value) (w : World) (h : qAd.Sl w xs v) :
 Calls prog 212 #[v, .string s] w fun e w' => (∃ k : Int, e = .returned (.int .i64 k) /\ -1 <= k /\ k <= 140737488355328 /\ qDb s xs = decide (0 <= k)) /\ w = w' := by
 obtain ⟨A, c, rfl⟩ := Ty.Sl_form h
 have hm := h.1
 have HI := hid (qPx s xs)
 go_enter func212, ntmps212
 go_wp2
 go_loop [8] (fun i => ∃ k : Nat, k <= xs.length /\ i = .int .i64 k /\ Hid ((xs.take k).any (fun x => s.toList == x.toList) = false)) (fun i => xs.length - (intOf i).toNat)
 case atStart => exact ⟨0, Nat.zero_le _, rfl, hid (by simp)⟩
 obtain ⟨k, hk, rfl, hall⟩ := hrel
 by_cases hlt : k < xs.length
 · obtain ⟨b, o, rfl, ha⟩ := Ty.Sl_at h k hlt
   obtain ⟨cs, ⟨rfl, _⟩, hx⟩ := ha k _ (List.getElem?_eq_getElem hlt)
   have hx := hx 0 _ rfl
   simp only [qAd, Ty.flat, Nat.mul_one, Nat.add_zero] at hx
   have HT := hid (qMe (f := fun x : ByteArray => s.toList == x.toList) hlt hall.out)
   have HN := hid (qMf (f := fun x : ByteArray => s.toList == x.toList) hlt)
   go_wp2
   · go_ret
     exact ⟨⟨_, rfl, by omega, by omega, by rw [HI.out, HN.out (by assumption)]; simp⟩, rfl⟩
   exact ⟨⟨k + 1, by omega, by go_num, hid (by rw [HT.out]; assumption)⟩, by simp [intOf]; omega⟩
 go_wp2
 go_ret
 exact ⟨⟨_, rfl, by omega, by omega, by have h1 := hall.out; rw [List.take_of_length_le (by omega)] at h1; rw [HI.out, h1]; decide⟩, rfl⟩
theorem qFt (s : ByteArray) (xs : List ByteArray) (v : Value) (w : World) (h : qAd.Sl w xs v) :
 Calls prog 174 #[.string s, v] w fun e w' => e = .returned (.bool (qDb s xs)) /\ w = w' := by
 have hC : Calls prog 199 #[v, .string s] w fun e w' => e = .returned (.bool (qDb s xs)) /\ w = w' := by
  go_enter func199, ntmps199
  go_wp2_with (go_at_call 212; (with_reducible refine (qPy s xs v _ h).mono ?_); rintro e w' ⟨⟨k, rfl, h1, h2, h3⟩, rfl⟩)
  go_ret
  exact ⟨qAa (by rw [h3]), rfl⟩
 have HC := hid hC
 clear hC
 go_enter func174, ntmps174
 go_wp2_with (go_at_call 199; (with_reducible refine HC.out.mono ?_); rintro e w' ⟨rfl, rfl⟩)
 go_ret
 exact ⟨rfl, rfl⟩
end Go.Proofs.YtcepdjlknalmnaaGreatDoor
/- What the lines of a connection do. -/
namespace Go.Proofs.YtcepdjlknalmnaaGreatDoor
open Tryz
open Lib (hid)
open Go.RowKit
attribute [local go_sem ↓] Go.wp_at_zero Go.wp_at_succ
def inT : List ByteArray := [⟨#[73, 78]⟩]
theorem qKz {w : World} {g : Nat} {xs : List ByteArray} {n : Nat} (hb : Blk w g (xs.map Value.string) 9) (hw : ∀ x ∈ xs, qAb x) (hn : xs.length = n) (h0 : 0 < xs.length) (hm : xs.length <= 1000) : qAd.Sl w xs (.slice (some ⟨g, 0, none⟩) n n) := by
 subst hn
 refine ⟨by omega, .inr ⟨h0, g, 0, _, rfl, Nat.le_refl _, fun k x hx => ⟨_, ⟨rfl, hw x (List.mem_of_getElem? hx)⟩, fun j u hu => ?_⟩⟩⟩
 have hj : j = 0 := by
  have := (List.getElem?_eq_some_iff.1 hu).1
  simp at this; omega
 subst hj
 have := hb.cell k (u := u) (by rw [List.getElem?_map, hx]; simpa using hu)
 simpa [qAd, Ty.flat] using this
theorem qHr (x : ByteArray) (g : Nat) (w : World) (hb : Blk w g [.string ⟨#[73, 78]⟩] 9) (hi : qDb x inT = true) : Calls prog 174 #[.string x, .slice (some ⟨g, 0, none⟩) 1 1] w fun e w' => e = .returned (.bool true) /\ w = w' :=
 (qFt x inT _ w (qKz hb (qCi (by decide)) rfl (by decide) (by decide))).mono (fun _ _ h => ⟨by rw [h.1, hi], h.2⟩)
theorem qHs (x : ByteArray) (g : Nat) (w : World) (hb : Blk w g [.string ⟨#[73, 80, 52]⟩, .string ⟨#[73, 80, 54]⟩] 9) (hi : qDb x qA1 = true) : Calls prog 174 #[.string x, .slice (some ⟨g, 0, none⟩) 2 2] w fun e w' => e = .returned (.bool true) /\ w = w' :=
 (qFt x qA1 _ w (qKz hb (qCi (by decide)) rfl (by decide) (by decide))).mono (fun _ _ h => ⟨by rw [h.1, hi], h.2⟩)
theorem size_set (w : World) (p : Addr) (u : Value) : (w.setCell p u).heap.size = w.heap.size := by simp [World.setCell]
set_option maxRecDepth 100000 in
set_option maxHeartbeats 1000000 in
theorem qMn (L : Nat) (d c : Value) (s : ByteArray) (p m1 p1 m2 p2 m r : Nat) (a : Addr) (w : World) (hL : Lx w L d c s p) (hs : qAb s) (hE : Eof w a) (hl0 : ¬ L = 0)
 (h1 : p <= m1) (hp1 : qB7 s p m1) (hs1 : qCl s m1 p1) (h2 : p1 <= m2) (hp2 : qB7 s p1 m2) (hs2 : qCl s m2 p2) (h3 : p2 < m) (hp3 : qB7 s p2 m) (hle : qA5 s m r) (hn : NextAt s r)
 (hi1 : qDb (s.extract p m1) inT = true) (hi2 : qDb (s.extract p1 m2) qA1 = true) :
 Calls prog 229 #[.pointer (some ⟨L, 0, none⟩)] w fun e w' => ∃ g g', e = .returned (.tuple #[.pointer (some ⟨g, 0, none⟩), .nilIface]) /\ w.heap.size <= g /\ w.heap.size <= g' ∧
  Blk w' g [.string (s.extract p m1), .string (s.extract p1 m2), .pointer (some ⟨g', 0, none⟩)] 215 /\ Blk w' g' [.string (s.extract p2 m), .pointer none, .pointer none] 217 /\ Lx w' L d c s r /\ Fr (fun k => k = L) w w' := by
 have hsz := hle.size
 obtain ⟨x1, hx1⟩ : ∃ x, x = s.extract p m1 := ⟨_, rfl⟩
 obtain ⟨x2, hx2⟩ : ∃ x, x = s.extract p1 m2 := ⟨_, rfl⟩
 obtain ⟨x3, hx3⟩ : ∃ x, x = s.extract p2 m := ⟨_, rfl⟩
 have hne : x3.toList.isEmpty = false := by
  rw [hx3, qE5]
  simp only [ByteArray.size_extract, decide_eq_false_iff_not]
  omega
 rw [<- hx1] at hi1
 rw [<- hx2] at hi2
 have HX1 := hid hx1
 have HX2 := hid hx2
 have HX3 := hid hx3
 rw [<- hx1, <- hx2, <- hx3]
 clear hx1 hx2 hx3
 obtain ⟨g, hg⟩ : ∃ g, g = w.heap.size := ⟨_, rfl⟩
 have nl := Blk.lt hL
 obtain ⟨w0, hw0⟩ : ∃ w0, w0 = w.alloc (.cells #[.string ⟨#[]⟩, .string ⟨#[]⟩, .pointer none] 215) := ⟨_, rfl⟩
 have hX0 : Lx w0 L d c s p := by rw [hw0]; exact Blk.alloc hL _
 have hE0 : Eof w0 a := by rw [hw0]; exact hE.nw ((Nw.refl _).alloc _)
 have hB0 : Blk w0 g [.string ⟨#[]⟩, .string ⟨#[]⟩, .pointer none] 215 := by rw [hw0, hg]; exact Blk.made w _ 215
 have hF0 : Fr (fun k => k = L) w w0 := by rw [hw0]; (apply_rules [Fr.refl, Fr.drew, Fr.drewN, Fr.alloc, Fr.put])
 have n0 : ¬ g = L := by omega
 go_enter func229, ntmps229
 go_upto_region 3 with fail
 rw [<- hw0, <- hg]
 have HG := hid hg
 clear hw0 hg
 have hgw : w.heap.size <= g := Nat.le_of_eq HG.out.symm
 go_upto_region 6 with (go_at_call 173; (with_reducible refine (qAu L d c s p m1 p1 a _ hX0 hs hE0 hl0 h1 hp1 hs1).mono ?_); rw [<- HX1.out]; rintro e w1 ⟨rfl, hX1, hF1⟩; have hB1 := hB0.fr hF1 n0; have hE1 : Eof w1 a := hE0.fr hF1 (fun e => hl0 e.symm); have c1 := hB1.cell 0 rfl; have f1 := hB1.fz 0)
 obtain ⟨w2, hw2⟩ : ∃ w2, w2 = w1.setCell ⟨g, 0, none⟩ (.string x1) := ⟨_, rfl⟩
 have hX2 : Lx w2 L d c s p1 := by rw [hw2]; exact Blk.other hX1 (fun e => n0 e.symm) _
 have hB2 : Blk w2 g [.string x1, .string ⟨#[]⟩, .pointer none] 215 := by rw [hw2]; exact hB1.set 0 _
 have hF2 : Fr (fun k => k = L) w w2 := by rw [hw2]; exact (hF0.trans (hF1.mono (fun k _ e => .inl e))).setCell (.inr hgw) _
 have hE2 : Eof w2 a := hE.fr hF2 (fun e => hl0 e.symm)
 rw [<- hw2]
 clear hw2 hX1 hB1 hE1 c1 f1 hF1
 have c2 := hB2.cell 0 rfl
 go_upto_region 8 with (go_at_call 174; (with_reducible refine (qHr x1 _ _ ?_ hi1).mono ?_); (focus exact Blk.made' rfl _ 9); rintro e w3 ⟨rfl, rfl⟩)
 obtain ⟨w3, hw3⟩ : ∃ w3, w3 = w2.alloc (.cells #[.string ⟨#[73, 78]⟩] 9) := ⟨_, rfl⟩
 have q3 : Nw w2 w3 := by rw [hw3]; exact (Nw.refl _).alloc _
 rw [<- hw3]
 clear hw3
 have hX3 := hX2.nw q3
 have hB3 := hB2.nw q3
 have hE3 := hE2.nw q3
 have hF3 : Fr (fun k => k = L) w w3 := hF2.trans (q3.fr _)
 clear hX2 hB2 hE2 hF2 c2
 go_upto_region 11 with (go_at_call 173; (with_reducible refine (qAu L d c s p1 m2 p2 a _ hX3 hs hE3 hl0 h2 hp2 hs2).mono ?_); rw [<- HX2.out]; rintro e w1 ⟨rfl, hX1, hF1⟩; have hB1 := hB3.fr hF1 n0; have hE1 : Eof w1 a := hE3.fr hF1 (fun e => hl0 e.symm); have c1 := hB1.cell 1 rfl; have f1 := hB1.fz 1)
 obtain ⟨w4, hw4⟩ : ∃ w4, w4 = w1.setCell ⟨g, 1, none⟩ (.string x2) := ⟨_, rfl⟩
 have hX4 : Lx w4 L d c s p2 := by rw [hw4]; exact Blk.other hX1 (fun e => n0 e.symm) _
 have hB4 : Blk w4 g [.string x1, .string x2, .pointer none] 215 := by rw [hw4]; exact hB1.set 1 _
 have hF4 : Fr (fun k => k = L) w w4 := by rw [hw4]; exact (hF3.trans (hF1.mono (fun k _ e => .inl e))).setCell (.inr hgw) _
 have hE4 : Eof w4 a := hE.fr hF4 (fun e => hl0 e.symm)
 rw [<- hw4]
 clear hw4 hX1 hB1 hE1 c1 f1 hF1 hX3 hB3 hE3 hF3
 have c4 := hB4.cell 1 rfl
 go_upto_region 13 with (go_at_call 174; (with_reducible refine (qHs x2 _ _ ?_ hi2).mono ?_); (focus exact Blk.made' rfl _ 9); rintro e w3 ⟨rfl, rfl⟩)
 obtain ⟨w5, hw5⟩ : ∃ w5, w5 = w4.alloc (.cells #[.string ⟨#[73, 80, 52]⟩, .string ⟨#[73, 80, 54]⟩] 9) := ⟨_, rfl⟩
 have q5 : Nw w4 w5 := by rw [hw5]; exact (Nw.refl _).alloc _
 rw [<- hw5]
 clear hw5
 have hX5 := hX4.nw q5
 have hB5 := hB4.nw q5
 have hE5 := hE4.nw q5
 have hF5 : Fr (fun k => k = L) w w5 := hF4.trans (q5.fr _)
 clear hX4 hB4 hE4 hF4 c4
 go_upto_region 17 with (go_at_call 173; (with_reducible refine (qAu L d c s p2 m m a _ hX5 hs hE5 hl0 (Nat.le_of_lt h3) hp3 hle.stops).mono ?_); rw [<- HX3.out]; rintro e w6 ⟨rfl, hX6, hF6⟩; have hB6 := hB5.fr hF6 n0; have hE6 : Eof w6 a := hE5.fr hF6 (fun e => hl0 e.symm); have c6 := hB6.cell 2 rfl; have f6 := hB6.fz 2; have g6 := hB6.lt)
 go_upto_region 19 with fail
 obtain ⟨g', hg'⟩ : ∃ g', g' = w6.heap.size := ⟨_, rfl⟩
 obtain ⟨w7, hw7⟩ : ∃ w7, w7 = (w6.setCell ⟨g, 2, none⟩ (.pointer (some ⟨w6.heap.size, 0, none⟩))).alloc (.cells #[.string x3, .pointer none, .pointer none] 217) := ⟨_, rfl⟩
 have hX7 : Lx w7 L d c s m := by rw [hw7]; exact (Blk.other hX6 (fun e => n0 e.symm) _).alloc _
 have hB7 : Blk w7 g [.string x1, .string x2, .pointer (some ⟨g', 0, none⟩)] 215 := by rw [hw7, hg']; exact (hB6.set 2 _).alloc _
 have hC7 : Blk w7 g' [.string x3, .pointer none, .pointer none] 217 := by rw [hw7]; exact Blk.made' (by rw [size_set, hg']) _ 217
 have hF7 : Fr (fun k => k = L) w w7 := by rw [hw7]; exact ((hF5.trans (hF6.mono (fun k _ e => .inl e))).setCell (.inr hgw) _).alloc _
 have hE7 : Eof w7 a := hE.fr hF7 (fun e => hl0 e.symm)
 have hgs : w.heap.size <= g' := by rw [hg']; exact (hF5.trans (hF6.mono (fun k _ e => .inl e))).size
 have n1 : ¬ g' = L := by omega
 rw [<- hw7]
 clear hw7 hg' hX6 hB6 hE6 c6 f6 hF6 hX5 hB5 hE5 hF5
 go_wp2_with (go_at_call 145; (with_reducible refine (qCe L _ _ s m r a _ hX7 hs hE7 hl0 hsz.1 hsz.2 hle.nl hn).mono ?_); rintro e w8 ⟨rfl, hX8, hF8⟩)
 go_ret2
 exact ⟨g, g', rfl, hgw, hgs, hB7.fr hF8 n0, hC7.fr hF8 n1, hX8, hF7.trans (hF8.mono (fun k _ e => .inl e))⟩
theorem Fr.undrew {S : Nat -> Prop} {w w' : World} (h : Fr S w.drew w') : Fr S w w' := ⟨h.os, h.tape, h.output, h.size, h.block⟩
theorem PS.lexN {B : Nat} {w w' : World} {ρ : Nat -> Nat} {L D C : Nat} {s : ByteArray} {p r : Nat} {q : Pst} {V : Vs} (h : PS B w ρ L D C s p q V) (hf : Fr (fun k => k = L) w w') (hx : Lx w' L (pD D) (pD C) s r) : PS B w' (ext ρ w.heap.size (fun _ => 0)) L D C s r q V :=
 ⟨by rw [qAz h.lx.lt]; exact h.rL, by rw [qAz h.dd.lt]; exact h.rD, by rw [qAz h.cc.lt]; exact h.rC, by rw [qAz h.size0]; exact h.rz, hx, h.dd.fr hf h.neLD, h.cc.fr hf h.neLC,
  (h.kp.keep (R' := fun i => i = 1) hf (fun k _ e => by rw [e]; exact h.rL) (fun _ e => e.elim) (by decide) (fun _ hk _ => qAz hk) (fun k hk => by
   rcases Nat.lt_or_ge k w.heap.size with hlt | hge
   · rw [qAz hlt] at hk; exact h.kp.zero k hk
   rw [qCm hge] at hk; exact absurd rfl hk)).all (fun i e => by omega), h.wfo⟩
theorem qMo {w : World} {ok : Nat -> Prop} {g g' : Nat} {x1 x2 x3 : ByteArray} (hb : Blk w g [.string x1, .string x2, .pointer (some ⟨g', 0, none⟩)] 215) (hb' : Blk w g' [.string x3, .pointer none, .pointer none] 217) (ho : ok g) (ho' : ok g') (h1 : qAb x1) (h2 : qAb x2) (h3 : qAb x3) :
 qAq (fun W => qGw.Pt W [⟨x1, x2, [⟨x3, [], []⟩]⟩] (.pointer (some ⟨g, 0, none⟩))) w ok := fun W hW => by
 have k1 : Blk W g [.string x1, .string x2, .pointer (some ⟨g', 0, none⟩)] 215 := (hW g ho hb.lt).trans hb
 have k2 : Blk W g' [.string x3, .pointer none, .pointer none] 217 := (hW g' ho' hb'.lt).trans hb'
 exact .inr ⟨_, g, rfl, rfl, Ty.At_blk ⟨_, rfl, h1, h2, .inr ⟨_, g', rfl, rfl, Ty.At_blk ⟨_, _, rfl, h3, .inl ⟨rfl, rfl⟩, .inl ⟨rfl, rfl⟩⟩ k2⟩⟩ k1⟩
set_option maxRecDepth 100000 in
theorem step_lc (B : Nat) (w : World) (ρ : Nat -> Nat) (L D C : Nat) (s : ByteArray) (p m1 p1 m2 p2 m r : Nat) (q : Pst) (V : Vs) (a : Addr) (x : Con) (h : PS B w ρ L D C s p q V) (hs : qAb s) (hE : Eof w a)
 (h1 : p <= m1) (hp1 : qB7 s p m1) (hs1 : qCl s m1 p1) (h2 : p1 <= m2) (hp2 : qB7 s p1 m2) (hs2 : qCl s m2 p2) (h3 : p2 < m) (hp3 : qB7 s p2 m) (hle : qA5 s m r) (hn : NextAt s r)
 (hi1 : qDb (s.extract p m1) inT = true) (hi2 : qDb (s.extract p1 m2) qA1 = true) (hx : qBf x = ⟨s.extract p m1, s.extract p1 m2, [⟨s.extract p2 m, [], []⟩]⟩) :
 Calls prog 221 #[.pointer (some ⟨L, 0, none⟩)] w (qAr V.pro B w L D C s r (q.app (.lc x)) 230) := by
 have hwf1 := qAs p m1 hs
 have hwf2 := qAs p1 m2 hs
 have hwf3 := qAs p2 m hs
 have l0 := h.lx.cell 0 rfl
 unfold pD at l0
 have n1 : ¬ D = L := h.neLD
 have n2 : ¬ L = D := fun e => n1 e.symm
 have hl0 := h.lne
 have HX := hid hx
 clear hx
 go_enter func221, ntmps221
 go_wp2
 go_region_held3 (fun w' => w'.cell? ⟨L, 0, none⟩ = some (.pointer (some ⟨D, 0, none⟩))) (first | exact m0 | go_keep) (first | (go_at_call 229; (with_reducible refine (qMn L (pD D) (pD C) s p m1 p1 m2 p2 m r a _ ?_ hs ?_ hl0 h1 hp1 hs1 h2 hp2 hs2 h3 hp3 hle hn hi1 hi2).mono ?_); (focus exact h.lx); (focus exact hE); rintro e w1 ⟨g, g', rfl, hg, hg', hB1, hC1, hX1, hF1⟩; have hF1 := Fr.undrew hF1; have h1 := h.lexN hF1 hX1; have m0 := h1.lx.cell 0 rfl; unfold pD at m0; have d7 := h1.dd.cell 12 rfl; have f7 := h1.dd.fz 12))
 go_wp2
 go_ret2
 have e : q.app (.lc x) = { q with conn := [⟨s.extract p m1, s.extract p1 m2, [⟨s.extract p2 m, [], []⟩]⟩] } := by
  show { q with conn := [qBf x] } = _
  rw [HX.out]
 rw [e]
 have hgw : w.heap.size <= g := hg
 have hgw' : w.heap.size <= g' := hg'
 have o1 : ∀ k, w.heap.size <= k -> k < w1.heap.size -> ext (ext ρ w.heap.size (fun _ => 0)) w1.heap.size (fun _ => 0) k = 0 := fun k k1 k2 => by rw [qAz k2, qCm k1]
 have n3 : ¬ g = D := fun e => by have := h.dd.lt; omega
 have n4 : ¬ g' = D := fun e => by have := h.dd.lt; omega
 exact qAr.mk (h1.dset (q' := { q with conn := [⟨s.extract p m1, s.extract p1 m2, [⟨s.extract p2 m, [], []⟩]⟩] }) (V' := { V with conn := .pointer (some ⟨g, 0, none⟩) }) (by (apply_rules [Fr.refl, Fr.drew, Fr.drewN, Fr.alloc, Fr.put])) (h1.dd.set 12 _) (fun k => ⟨k.zero, k.info, k.uri, k.email, k.phone, qMo (hB1.other n3 _) (hC1.other n4 _) (o1 g hgw hB1.lt) (o1 g' hgw' hC1.lt) hwf1 hwf2 hwf3, k.key, fun _ => k.bws (by decide), fun _ => k.zones (by decide), fun _ => k.sa (by decide), fun _ => k.ma (by decide), fun _ _ => k.times (by decide) (by decide), fun _ _ _ => k.media (by decide) (by decide) (by decide)⟩) ⟨rfl, rfl⟩ h.wfo)
  ((hF1.mono (fun k _ e => e ▸ h.BL)).trans ((Fr.refl _ _).setCell (.inl (.inl h.BD)) _))
end Go.Proofs.YtcepdjlknalmnaaGreatDoor
/- What the origin's line does. -/
namespace Go.Proofs.YtcepdjlknalmnaaGreatDoor
open Tryz
open Lib (hid)
open Go.RowKit
attribute [local go_sem ↓] Go.wp_at_zero Go.wp_at_succ
def WfOrg (o : Org) : Prop := qAb o.user /\ qAg .u64 o.id /\ qAg .u64 o.ver /\ qAb o.net /\ qAb o.addr /\ qAb o.adr
theorem PS.org {B : Nat} {w : World} {ρ : Nat -> Nat} {L D C : Nat} {s : ByteArray} {p : Nat} {q : Pst} {V : Vs} (h : PS B w ρ L D C s p q V) (j : Nat) (u : Value) (o : Org) (hd : (qCg q V).set j u = qCg { q with org := o } V) (hw : WfOrg o) :
 ∃ ρ', PS B (w.setCell ⟨D, j, none⟩ u) ρ' L D C s p { q with org := o } V :=
 ⟨_, h.dset (q' := { q with org := o }) (V' := V) ((Fr.refl _ _).put _) (by rw [<- hd]; exact h.dd.set j u) (fun k => ⟨k.zero, k.info, k.uri, k.email, k.phone, k.conn, k.key, fun _ => k.bws (by decide), fun _ => k.zones (by decide), fun _ => k.sa (by decide), fun _ => k.ma (by decide), fun _ _ => k.times (by decide) (by decide), fun _ _ _ => k.media (by decide) (by decide) (by decide)⟩) ⟨rfl, rfl⟩ ⟨hw.1, hw.2.1, hw.2.2.1, hw.2.2.2.1, hw.2.2.2.2.1, hw.2.2.2.2.2, h.wfo.2.2.2.2.2.2⟩⟩
theorem PS.worg {B : Nat} {w : World} {ρ : Nat -> Nat} {L D C : Nat} {s : ByteArray} {p : Nat} {q : Pst} {V : Vs} (h : PS B w ρ L D C s p q V) : WfOrg q.org := ⟨h.wfo.1, h.wfo.2.1, h.wfo.2.2.1, h.wfo.2.2.2.1, h.wfo.2.2.2.2.1, h.wfo.2.2.2.2.2.1⟩
def qC6 (B : Nat) (w : World) (L D C : Nat) (s : ByteArray) (r : Nat) (q' : Pst) (V' : Vs) (w' : World) : Prop := (∃ ρ', PS B w' ρ' L D C s r q' V') /\ Fr (fun k => B <= k) w w'
theorem qC6.org {B : Nat} {w w1 : World} {ρ : Nat -> Nat} {L D C : Nat} {s : ByteArray} {r : Nat} {q : Pst} {V : Vs} (h : PS B w1 ρ L D C s r q V) (hf : Fr (fun k => B <= k) w w1) (j : Nat) (u : Value) (o : Org) (hd : (qCg q V).set j u = qCg { q with org := o } V) (hw : WfOrg o) :
 qC6 B w L D C s r { q with org := o } V (w1.setCell ⟨D, j, none⟩ u) := ⟨h.org j u o hd hw, hf.setCell (.inl h.BD) u⟩
theorem qC6.undrew {B : Nat} {w w1 : World} {L D C : Nat} {s : ByteArray} {r : Nat} {q : Pst} {V : Vs} (h : qC6 B w.drew L D C s r q V w1) : qC6 B w L D C s r q V w1 := ⟨h.1, h.2.undrew⟩
set_option maxRecDepth 100000 in
theorem qK0 (B : Nat) (w : World) (ρ : Nat -> Nat) (L D C : Nat) (s : ByteArray) (p m r : Nat) (q : Pst) (V : Vs) (a : Addr) (h : PS B w ρ L D C s p q V) (hs : qAb s) (hE : Eof w a) (h1 : p < m) (hp : qB7 s p m) (hst : qCl s m r) :
 Calls prog 175 #[.pointer (some ⟨L, 0, none⟩)] w fun e w' => e = .returned .nilIface /\ qC6 B w L D C s r { q with org := { q.org with addr := s.extract p m } } V w' := by
 have hwx := qAs p m hs
 have hl0 := h.lne
 go_enter func175, ntmps175
 go_wp2_with (go_at_call 200; (with_reducible refine (qDq L _ _ s p m r a _ h.lx hs hE hl0 h1 hp hst).mono ?_); rintro e w1 ⟨rfl, hX1, hF1⟩; have h1 := h.lex hF1 hX1; have l0 := h1.lx.cell 0 rfl; have d7 := h1.dd.cell 5 rfl; have f7 := h1.dd.fz 5; unfold pD at l0)
 go_ret
 exact ⟨rfl, qC6.org h1 (hF1.mono (fun k _ e => e ▸ h.BL)) 5 _ { q.org with addr := s.extract p m } rfl ⟨h.worg.1, h.worg.2.1, h.worg.2.2.1, h.worg.2.2.2.1, hwx, h.worg.2.2.2.2.2⟩⟩
set_option maxRecDepth 100000 in
theorem qLx (B : Nat) (w : World) (ρ : Nat -> Nat) (L D C : Nat) (s : ByteArray) (p m r : Nat) (q : Pst) (V : Vs) (a : Addr) (h : PS B w ρ L D C s p q V) (hs : qAb s) (hE : Eof w a) (h1 : p < m) (hp : qB7 s p m) (hst : qCl s m r) :
 Calls prog 176 #[.pointer (some ⟨L, 0, none⟩)] w fun e w' => e = .returned .nilIface /\ qC6 B w L D C s r { q with org := { q.org with adr := s.extract p m } } V w' := by
 have hwx := qAs p m hs
 have hl0 := h.lne
 go_enter func176, ntmps176
 go_wp2_with (go_at_call 200; (with_reducible refine (qDq L _ _ s p m r a _ h.lx hs hE hl0 h1 hp hst).mono ?_); rintro e w1 ⟨rfl, hX1, hF1⟩; have h1 := h.lex hF1 hX1; have l0 := h1.lx.cell 0 rfl; have d7 := h1.dd.cell 6 rfl; have f7 := h1.dd.fz 6; unfold pD at l0)
 go_ret
 exact ⟨rfl, qC6.org h1 (hF1.mono (fun k _ e => e ▸ h.BL)) 6 _ { q.org with adr := s.extract p m } rfl ⟨h.worg.1, h.worg.2.1, h.worg.2.2.1, h.worg.2.2.2.1, h.worg.2.2.2.2.1, hwx⟩⟩
theorem Digits.wf {s : ByteArray} {p q : Nat} {F : Nat -> Int} (h : Digits s p q F) : qAg .u64 (F q) := ⟨h.low q, by have := h.high q (Nat.le_refl _); show F q <= 18446744073709551615; omega⟩
set_option maxRecDepth 100000 in
set_option maxHeartbeats 2000000 in
theorem step_lo (B : Nat) (hB : 0 < B) (w : World) (ρ : Nat -> Nat) (L D C : Nat) (s : ByteArray) (p m1 p1 m2 p2 m3 p3 m4 p4 m5 p5 m r : Nat) (F1 F2 : Nat -> Int) (q : Pst) (V : Vs) (a : Addr) (h : PS B w ρ L D C s p q V) (hs : qAb s) (hE : Eof w a)
 (h1 : p <= m1) (hp1 : qB7 s p m1) (hs1 : qCl s m1 p1) (h2 : p1 <= m2) (hF1 : Digits s p1 m2 F1) (hs2 : qCl s m2 p2) (h3 : p2 <= m3) (hF2 : Digits s p2 m3 F2) (hs3 : qCl s m3 p3) (h4 : p3 <= m4) (hp4 : qB7 s p3 m4) (hs4 : qCl s m4 p4)
 (h5 : p4 < m5) (hp5 : qB7 s p4 m5) (hs5 : qCl s m5 p5) (h6 : p5 < m) (hp6 : qB7 s p5 m) (hle : qA5 s m r) (hn : NextAt s r) (hi1 : qDb (s.extract p3 m4) inT = true) (hi2 : qDb (s.extract p4 m5) qA1 = true) :
 Calls prog 162 #[.pointer (some ⟨L, 0, none⟩)] w (qAr V.pro B w L D C s r (q.app (.lo ⟨s.extract p m1, F1 m2, F2 m3, s.extract p3 m4, s.extract p4 m5, s.extract p5 m⟩)) 177) := by
 have hsz := hle.size
 have hl0 := h.lne
 have hB0 : B <= 0 -> False := fun e => by omega
 obtain ⟨x1, hx1⟩ : ∃ x, x = s.extract p m1 := ⟨_, rfl⟩
 obtain ⟨x4, hx4⟩ : ∃ x, x = s.extract p3 m4 := ⟨_, rfl⟩
 obtain ⟨x5, hx5⟩ : ∃ x, x = s.extract p4 m5 := ⟨_, rfl⟩
 have hw1 : qAb x1 := by rw [hx1]; exact qAs _ _ hs
 have hw4 : qAb x4 := by rw [hx4]; exact qAs _ _ hs
 have hw5 : qAb x5 := by rw [hx5]; exact qAs _ _ hs
 rw [<- hx4] at hi1
 rw [<- hx5] at hi2
 rw [<- hx1, <- hx4, <- hx5]
 have HX1 := hid hx1
 have HX4 := hid hx4
 have HX5 := hid hx5
 clear hx1 hx4 hx5
 have n1 : ¬ D = L := h.neLD
 have n2 : ¬ L = D := fun e => n1 e.symm
 have hE0 := hE
 have hW0 : Fr (fun k => B <= k) w w := Fr.refl _ _
 have k0 := h
 have l0 := h.lx.cell 0 rfl
 unfold pD at l0
 go_enter func162, ntmps162
 go_upto_region 2 with fail
 go_region_held3 (fun w' => w'.cell? ⟨L, 0, none⟩ = some (.pointer (some ⟨D, 0, none⟩))) (first | exact m0 | go_keep) (first | (go_at_call 173; (with_reducible refine (qAu L (pD D) (pD C) s p m1 p1 a _ ?_ hs ?_ hl0 h1 hp1 hs1).mono ?_); (focus exact k0.lx); (focus exact hE0); rw [<- HX1.out]; rintro e v1 ⟨rfl, hX, hF⟩; have hF := Fr.undrew hF; have j1 := k0.lex hF hX; have m0 := j1.lx.cell 0 rfl; unfold pD at m0; have d7 := j1.dd.cell 1 rfl; have f7 := j1.dd.fz 1))
 have y1 : qC6 B w L D C s p1 { q with org := ⟨x1, q.org.id, q.org.ver, q.org.net, q.org.addr, q.org.adr⟩ } V (v1.setCell ⟨D, 1, none⟩ (.string x1)) := qC6.org j1 (hW0.trans (hF.mono (fun k _ e => .inl (e ▸ h.BL)))) 1 _ ⟨x1, q.org.id, q.org.ver, q.org.net, q.org.addr, q.org.adr⟩ rfl ⟨hw1, k0.worg.2.1, k0.worg.2.2.1, k0.worg.2.2.2.1, k0.worg.2.2.2.2.1, k0.worg.2.2.2.2.2⟩
 obtain ⟨w1, hw1'⟩ : ∃ w1, w1 = v1.setCell ⟨D, 1, none⟩ (.string x1) := ⟨_, rfl⟩
 rw [<- hw1'] at y1 ⊢
 clear hw1'
 obtain ⟨⟨ρ1, k1⟩, hW1⟩ := y1
 have hE1 : Eof w1 a := hE.fr hW1 hB0
 have l0 := k1.lx.cell 0 rfl
 unfold pD at l0
 clear m0 d7 f7 hX hF j1 k0
 go_wp2
 go_region_held3 (fun w' => w'.cell? ⟨L, 0, none⟩ = some (.pointer (some ⟨D, 0, none⟩))) (first | exact m0 | go_keep) (first | (go_at_call 144; (with_reducible refine (qBd L (pD D) (pD C) s p1 m2 p2 F1 a _ ?_ hs ?_ hl0 h2 hF1 hs2).mono ?_); (focus exact k1.lx); (focus exact hE1); rintro e v2 ⟨rfl, hX, hF⟩; have hF := Fr.undrew hF; have j2 := k1.lex hF hX; have m0 := j2.lx.cell 0 rfl; unfold pD at m0; have d7 := j2.dd.cell 2 rfl; have f7 := j2.dd.fz 2))
 have y2 : qC6 B w L D C s p2 { q with org := ⟨x1, (F1 m2), q.org.ver, q.org.net, q.org.addr, q.org.adr⟩ } V (v2.setCell ⟨D, 2, none⟩ (.int .u64 (F1 m2))) := qC6.org j2 (hW1.trans (hF.mono (fun k _ e => .inl (e ▸ h.BL)))) 2 _ ⟨x1, (F1 m2), q.org.ver, q.org.net, q.org.addr, q.org.adr⟩ rfl ⟨k1.worg.1, hF1.wf, k1.worg.2.2.1, k1.worg.2.2.2.1, k1.worg.2.2.2.2.1, k1.worg.2.2.2.2.2⟩
 obtain ⟨w2, hw2'⟩ : ∃ w2, w2 = v2.setCell ⟨D, 2, none⟩ (.int .u64 (F1 m2)) := ⟨_, rfl⟩
 rw [<- hw2'] at y2 ⊢
 clear hw2'
 obtain ⟨⟨ρ2, k2⟩, hW2⟩ := y2
 have hE2 : Eof w2 a := hE.fr hW2 hB0
 have l0 := k2.lx.cell 0 rfl
 unfold pD at l0
 clear m0 d7 f7 hX hF j2 k1
 go_wp2
 go_region_held3 (fun w' => w'.cell? ⟨L, 0, none⟩ = some (.pointer (some ⟨D, 0, none⟩))) (first | exact m0 | go_keep) (first | (go_at_call 144; (with_reducible refine (qBd L (pD D) (pD C) s p2 m3 p3 F2 a _ ?_ hs ?_ hl0 h3 hF2 hs3).mono ?_); (focus exact k2.lx); (focus exact hE2); rintro e v3 ⟨rfl, hX, hF⟩; have hF := Fr.undrew hF; have j3 := k2.lex hF hX; have m0 := j3.lx.cell 0 rfl; unfold pD at m0; have d7 := j3.dd.cell 3 rfl; have f7 := j3.dd.fz 3))
 have y3 : qC6 B w L D C s p3 { q with org := ⟨x1, (F1 m2), (F2 m3), q.org.net, q.org.addr, q.org.adr⟩ } V (v3.setCell ⟨D, 3, none⟩ (.int .u64 (F2 m3))) := qC6.org j3 (hW2.trans (hF.mono (fun k _ e => .inl (e ▸ h.BL)))) 3 _ ⟨x1, (F1 m2), (F2 m3), q.org.net, q.org.addr, q.org.adr⟩ rfl ⟨k2.worg.1, k2.worg.2.1, hF2.wf, k2.worg.2.2.2.1, k2.worg.2.2.2.2.1, k2.worg.2.2.2.2.2⟩
 obtain ⟨w3, hw3'⟩ : ∃ w3, w3 = v3.setCell ⟨D, 3, none⟩ (.int .u64 (F2 m3)) := ⟨_, rfl⟩
 rw [<- hw3'] at y3 ⊢
 clear hw3'
 obtain ⟨⟨ρ3, k3⟩, hW3⟩ := y3
 have hE3 : Eof w3 a := hE.fr hW3 hB0
 have l0 := k3.lx.cell 0 rfl
 unfold pD at l0
 clear m0 d7 f7 hX hF j3 k2
 go_wp2
 go_region_held3 (fun w' => w'.cell? ⟨L, 0, none⟩ = some (.pointer (some ⟨D, 0, none⟩))) (first | exact m0 | go_keep) (first | (go_at_call 173; (with_reducible refine (qAu L (pD D) (pD C) s p3 m4 p4 a _ ?_ hs ?_ hl0 h4 hp4 hs4).mono ?_); (focus exact k3.lx); (focus exact hE3); rw [<- HX4.out]; rintro e v4 ⟨rfl, hX, hF⟩; have hF := Fr.undrew hF; have j4 := k3.lex hF hX; have m0 := j4.lx.cell 0 rfl; unfold pD at m0; have d7 := j4.dd.cell 4 rfl; have f7 := j4.dd.fz 4))
 have y4 : qC6 B w L D C s p4 { q with org := ⟨x1, (F1 m2), (F2 m3), x4, q.org.addr, q.org.adr⟩ } V (v4.setCell ⟨D, 4, none⟩ (.string x4)) := qC6.org j4 (hW3.trans (hF.mono (fun k _ e => .inl (e ▸ h.BL)))) 4 _ ⟨x1, (F1 m2), (F2 m3), x4, q.org.addr, q.org.adr⟩ rfl ⟨k3.worg.1, k3.worg.2.1, k3.worg.2.2.1, hw4, k3.worg.2.2.2.2.1, k3.worg.2.2.2.2.2⟩
 obtain ⟨w4, hw4'⟩ : ∃ w4, w4 = v4.setCell ⟨D, 4, none⟩ (.string x4) := ⟨_, rfl⟩
 rw [<- hw4'] at y4 ⊢
 clear hw4'
 obtain ⟨⟨ρ4, k4⟩, hW4⟩ := y4
 have hE4 : Eof w4 a := hE.fr hW4 hB0
 have l0 := k4.lx.cell 0 rfl
 unfold pD at l0
 clear m0 d7 f7 hX hF j4 k3
 have c4 := k4.dd.cell 4 rfl
 go_upto_region 16 with (go_at_call 174; (with_reducible refine (qHr x4 _ _ ?_ hi1).mono ?_); (focus exact Blk.made' rfl _ 9); rintro e w5 ⟨rfl, rfl⟩)
 obtain ⟨w5, hw5'⟩ : ∃ w5, w5 = w4.alloc (.cells #[.string ⟨#[73, 78]⟩] 9) := ⟨_, rfl⟩
 have y5 : qC6 B w L D C s p4 { q with org := ⟨x1, F1 m2, F2 m3, x4, q.org.addr, q.org.adr⟩ } V w5 := by
  rw [hw5']
  exact ⟨⟨_, k4.lexN (by (apply_rules [Fr.refl, Fr.drew, Fr.drewN, Fr.alloc, Fr.put])) (Blk.alloc k4.lx _)⟩, hW4.alloc _⟩
 rw [<- hw5']
 clear hw5' c4 l0 k4 hE4
 obtain ⟨⟨ρ5, k5⟩, hW5⟩ := y5
 have hE5 : Eof w5 a := hE.fr hW5 hB0
 go_upto_region 19 with (go_at_call 175; (with_reducible refine (qK0 B _ ρ5 L D C s p4 m5 p5 _ V a k5 hs hE5 h5 hp5 hs5).mono ?_); rw [<- HX5.out]; rintro e w6 ⟨rfl, y6⟩)
 obtain ⟨⟨ρ6, k6⟩, hW6⟩ := y6
 have hW6 := hW5.trans (hW6.mono (fun k _ e => .inl e))
 have hE6 : Eof w6 a := hE.fr hW6 hB0
 have c6 := k6.dd.cell 5 rfl
 have l0 := k6.lx.cell 0 rfl
 unfold pD at l0
 clear k5 hE5
 go_upto_region 21 with (go_at_call 174; (with_reducible refine (qHs x5 _ _ ?_ hi2).mono ?_); (focus exact Blk.made' rfl _ 9); rintro e w5 ⟨rfl, rfl⟩)
 obtain ⟨w7, hw7'⟩ : ∃ w7, w7 = w6.alloc (.cells #[.string ⟨#[73, 80, 52]⟩, .string ⟨#[73, 80, 54]⟩] 9) := ⟨_, rfl⟩
 have y7 : qC6 B w L D C s p5 { q with org := ⟨x1, F1 m2, F2 m3, x4, x5, q.org.adr⟩ } V w7 := by
  rw [hw7']
  exact ⟨⟨_, k6.lexN (by (apply_rules [Fr.refl, Fr.drew, Fr.drewN, Fr.alloc, Fr.put])) (Blk.alloc k6.lx _)⟩, hW6.alloc _⟩
 rw [<- hw7']
 clear hw7' c6 l0 k6 hE6
 obtain ⟨⟨ρ7, k7⟩, hW7⟩ := y7
 have hE7 : Eof w7 a := hE.fr hW7 hB0
 go_upto_region 24 with (go_at_call 176; (with_reducible refine (qLx B _ ρ7 L D C s p5 m m _ V a k7 hs hE7 h6 hp6 hle.stops).mono ?_); rintro e w8 ⟨rfl, y8⟩)
 obtain ⟨⟨ρ8, k8⟩, hW8⟩ := y8
 have hW8 := hW7.trans (hW8.mono (fun k _ e => .inl e))
 have hE8 : Eof w8 a := hE.fr hW8 hB0
 clear k7 hE7
 go_wp2_with (go_at_call 145; (with_reducible refine (qCe L (pD D) (pD C) s m r a _ k8.lx hs hE8 hl0 hsz.1 hsz.2 hle.nl hn).mono ?_); rintro e w9 ⟨rfl, hX9, hF9⟩)
 go_ret2
 exact qAr.mk (k8.lex hF9 hX9) (hW8.trans (hF9.mono (fun k _ e => .inl (e ▸ h.BL))))
end Go.Proofs.YtcepdjlknalmnaaGreatDoor

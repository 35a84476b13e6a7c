/- Laws of this claim. -/
import Derived.Test.YtcepdjlknalmnaaGreatDoorBwA
set_option linter.unusedSimpArgs false
set_option linter.unusedVariables false
namespace Go.Proofs.YtcepdjlknalmnaaGreatDoor
open Tryz
open Lib (hid)
open Go.RowKit
def qP6 (x : ByteArray) (t : Att) : Prop := (0 < pre 58 (bs x) /\ pre 58 (bs x) < x.size /\ t = ⟨x.extract 0 (pre 58 (bs x)), x.extract (pre 58 (bs x) + 1) x.size⟩) ∨ (¬ pre 58 (bs x) < x.size /\ t = ⟨x, strE⟩)
theorem PS.nw {B : Nat} {w w' : World} {ρ : Nat -> Nat} {L D C : Nat} {s : ByteArray} {p : Nat} {q : Pst} {V : Vs} (h : PS B w ρ L D C s p q V) (hn : Nw w w') : PS B w' (ext ρ w.heap.size (fun _ => 0)) L D C s p q V :=
 h.lexN (hn.fr _) (h.lx.nw hn)
set_option maxRecDepth 100000 in
set_option maxHeartbeats 1000000 in
theorem step_la (B : Nat) (w : World) (ρ : Nat -> Nat) (L D C : Nat) (s : ByteArray) (p m r : Nat) (q : Pst) (V : Vs) (N : Nat) (t : Att) (h : PS B w ρ L D C s p q V) (hs : qAb s) (hN : Small N q) (hN2 : N <= 1000000000) (hpm : p <= m) (hW : Whole s p m) (hle : qA5 s m r)
 (ha : ∀ k (h : k < (s.extract p m).size), ((s.extract p m)[k]'h).toNat < 128) (hat : qP6 (s.extract p m) t) :
 Calls prog 244 #[.pointer (some ⟨L, 0, none⟩)] w (qAr V.pro B w L D C s r (q.app (.la t)) 253) := by
 have hwx : qAb (s.extract p m) := qAs _ _ hs
 obtain ⟨x, hx⟩ : ∃ x, x = s.extract p m := ⟨_, rfl⟩
 have HA := hid ha
 clear ha
 rw [<- hx] at hwx hat HA
 have HX := hid hx
 clear hx
 have hxs : x.size <= 1152921504606846976 := hwx
 go_enter func244, ntmps244
 go_upto_region 4 with (go_at_call 213; (with_reducible refine (qBk L _ _ s p m r _ h.lx hs hpm hW hle).mono ?_); rw [<- HX.out]; rintro e w1 ⟨rfl, hx1, hf1⟩; have h1 := h.lex hf1 hx1)
 have hi := qIg x w1 hwx HA.out
 obtain ⟨P, hP⟩ : ∃ P, P = pre 58 (bs x) := ⟨_, rfl⟩
 unfold qP6 at hat
 rw [<- hP] at hi hat
 have HI := hid hi
 clear hi hP
 have hdone : ∀ (w3 w4 w5 : World) (g : Nat) (v1 : Value), Nw w1 w3 -> v1.ownBlock = some g -> Row w4 B 199 2 v1 ((q.atts).map qA2 ++ [qG8]) -> Blk w4 C [v1, V.ma] 155 -> Fr (fun k => some k = V.sa.ownBlock ∨ k = C) w3 w4 -> (v1.ownBlock = V.sa.ownBlock ∨ ∃ b, v1.ownBlock = some b /\ w3.heap.size <= b) -> qAb t.key -> qAb t.val →
  Row w5 B 199 2 v1 ((q.atts ++ [t]).map qA2) -> Fr (fun k => k = g) w4 w5 -> qAr V.pro B w L D C s r (q.app (.la t)) 253 (.returned (.tuple #[fv 253, .nilIface])) w5 := by
  intro w3 w4 w5 g v1 hn hg hr4 hC4 hf4 ho4 hk1 hk2 hr5 hf5
  have h3 := h1.nw hn
  have hgC : ¬ C = g := fun e => by
   rcases ho4 with h6 | ⟨b, h6, h7⟩
   · have := (h3.kp.sa (fun e => e)).2 g (by rw [<- h6, hg])
     rw [<- e, h3.rC] at this; cases this
   rw [hg] at h6
   have := Option.some.inj h6
   have := h3.cc.lt
   omega
  have hf35 : Fr (fun k => some k = V.sa.ownBlock ∨ k = C) w3 w5 := hf4.trans (hf5.mono (fun k hk e => by
   rcases ho4 with h6 | ⟨b, h6, h7⟩
   · exact .inl (.inl (by rw [<- h6, hg, e]))
   rw [hg] at h6
   have := Option.some.inj h6
   exact .inr (by omega)))
  obtain ⟨⟨ρ', h'⟩, hf'⟩ := h3.addSa hr5 hf35 ho4 (hC4.fr hf5 hgC) ⟨hk1, hk2⟩
  exact qAr.mk h' ((hf1.mono (fun k _ e => e ▸ h.BL)).trans (((hn.fr _).trans (hf'.mono (fun k _ e => .inl e))).mono (fun k _ e => .inl e)))
 have HD := hid hdone
 clear hdone
 have hq := hN.atts
 have c1 := h1.lx.cell 1 rfl
 unfold pD at c1
 rcases hat with ⟨p0, p1, ht⟩ | ⟨p1, ht⟩
 · have HT := hid ht
   clear ht
   have b1 : (P : Int) <= (x.size : Int) := by omega
   have b2 : (P : Int) + 1 <= (x.size : Int) := by omega
   have b3 : (0 : Int) < (P : Int) := by omega
   go_upto_region 6 with (first | (go_at_call 254; (with_reducible refine HI.out.mono ?_); rw [if_pos p1]; rintro e w3 ⟨rfl, hn3⟩; have c3 := hn3.cell c1; have h3 := h1.nw hn3; have r3 : Row w3 B 199 2 V.sa (q.atts.map qA2) := (qAo.toFlat (h3.kp.sa (fun e => e)).1).1; have l3 : (List.map qA2 q.atts).length <= 1000000000 := (by simp; omega); have n3 : ¬ some C = V.sa.ownBlock := (fun e => by have h9 := (h3.kp.sa (fun e => e)).2 C e.symm; rw [h3.rC] at h9; cases h9); have bb3 : B <= w3.heap.size := (by have h8 := h3.BC; have h9 := h3.cc.lt; omega)) | (go_at_call 255; (with_reducible refine (qId B C V.sa V.ma ((q.atts).map qA2) _ h3.cc r3 l3 n3 bb3).mono ?_); rintro e w4 ⟨g, v1, rfl, hg, hr4, hC4, hf4, ho4⟩))
   have hL1 : (q.atts.map qA2).length = q.atts.length := by simp
   have y0 : w4.cell? ⟨g, q.atts.length * 2, none⟩ = some (.string ⟨#[]⟩) := by
    have := hr4.cell hg (k := (q.atts.map qA2).length) (j := 0) (r := qG8) (qCr _ _) rfl
    rwa [hL1] at this
   have y1 : w4.cell? ⟨g, q.atts.length * 2 + 1, none⟩ = some (.string ⟨#[]⟩) := by
    have := hr4.cell hg (k := (q.atts.map qA2).length) (j := 1) (r := qG8) (qCr _ _) rfl
    rwa [hL1] at this
   have z0 : w4.frozen? ⟨g, q.atts.length * 2, none⟩ = false := hr4.fz hg
   have z1 : w4.frozen? ⟨g, q.atts.length * 2 + 1, none⟩ = false := hr4.fz hg
   go_wp2
   go_ret2
   have hr5 := hr4.set hg (k := (q.atts.map qA2).length) (j := 0) (u := .string (x.extract 0 P)) (qCr _ _) (by decide) rfl
   rw [qFy] at hr5
   have hr6 := hr5.set hg (k := (q.atts.map qA2).length) (j := 1) (u := .string (x.extract (P + 1) x.size)) (qCr _ _) (by decide) rfl
   rw [qFy, hL1] at hr6
   refine HD.out w3 w4 _ g v1 hn3 hg hr4 (by simpa using hC4) hf4 ho4 (by rw [HT.out]; exact qAs _ _ hwx) (by rw [HT.out]; exact qAs _ _ hwx) (by rw [HT.out]; simpa [qA2, qG8] using hr6) (by (apply_rules [Fr.refl, Fr.drew, Fr.drewN, Fr.alloc, Fr.put]))
 have HT := hid ht
 clear ht
 go_upto_region 6 with (first | (go_at_call 254; (with_reducible refine HI.out.mono ?_); rw [if_neg p1]; rintro e w3 ⟨rfl, hn3⟩; have c3 := hn3.cell c1; have h3 := h1.nw hn3; have r3 : Row w3 B 199 2 V.sa (q.atts.map qA2) := (qAo.toFlat (h3.kp.sa (fun e => e)).1).1; have l3 : (List.map qA2 q.atts).length <= 1000000000 := (by simp; omega); have n3 : ¬ some C = V.sa.ownBlock := (fun e => by have h9 := (h3.kp.sa (fun e => e)).2 C e.symm; rw [h3.rC] at h9; cases h9); have bb3 : B <= w3.heap.size := (by have h8 := h3.BC; have h9 := h3.cc.lt; omega)) | (go_at_call 255; (with_reducible refine (qId B C V.sa V.ma ((q.atts).map qA2) _ h3.cc r3 l3 n3 bb3).mono ?_); rintro e w4 ⟨g, v1, rfl, hg, hr4, hC4, hf4, ho4⟩))
 have hL1 : (q.atts.map qA2).length = q.atts.length := by simp
 have y0 : w4.cell? ⟨g, q.atts.length * 2, none⟩ = some (.string ⟨#[]⟩) := by
  have := hr4.cell hg (k := (q.atts.map qA2).length) (j := 0) (r := qG8) (qCr _ _) rfl
  rwa [hL1] at this
 have z0 : w4.frozen? ⟨g, q.atts.length * 2, none⟩ = false := hr4.fz hg
 go_wp2
 go_ret2
 have hr5 := hr4.set hg (k := (q.atts.map qA2).length) (j := 0) (u := .string x) (qCr _ _) (by decide) rfl
 rw [qFy, hL1] at hr5
 refine HD.out w3 w4 _ g v1 hn3 hg hr4 (by simpa using hC4) hf4 ho4 (by rw [HT.out]; exact hwx) (by rw [HT.out]; show (0 : Nat) <= _; exact Nat.zero_le _) (by rw [HT.out]; simpa [qA2, qG8, strE] using hr5) (by (apply_rules [Fr.refl, Fr.drew, Fr.drewN, Fr.alloc, Fr.put]))
set_option maxRecDepth 100000 in
set_option maxHeartbeats 1000000 in
theorem step_ma (B : Nat) (w : World) (ρ : Nat -> Nat) (L D C : Nat) (s : ByteArray) (p m r : Nat) (q : Pst) (V : Vs) (N : Nat) (t : Att) (h : PS B w ρ L D C s p q V) (hs : qAb s) (hN : Small N q) (hN2 : N <= 1000000000) (hpm : p <= m) (hW : Whole s p m) (hle : qA5 s m r)
 (ha : ∀ k (h : k < (s.extract p m).size), ((s.extract p m)[k]'h).toNat < 128) (hat : qP6 (s.extract p m) t) :
 Calls prog 271 #[.pointer (some ⟨L, 0, none⟩)] w (qAr V.pro B w L D C s r (q.app (.ma t)) 281) := by
 have hwx : qAb (s.extract p m) := qAs _ _ hs
 obtain ⟨x, hx⟩ : ∃ x, x = s.extract p m := ⟨_, rfl⟩
 have HA := hid ha
 clear ha
 rw [<- hx] at hwx hat HA
 have HX := hid hx
 clear hx
 have hxs : x.size <= 1152921504606846976 := hwx
 go_enter func271, ntmps271
 go_upto_region 4 with (go_at_call 213; (with_reducible refine (qBk L _ _ s p m r _ h.lx hs hpm hW hle).mono ?_); rw [<- HX.out]; rintro e w1 ⟨rfl, hx1, hf1⟩; have h1 := h.lex hf1 hx1)
 have hi := qIg x w1 hwx HA.out
 obtain ⟨P, hP⟩ : ∃ P, P = pre 58 (bs x) := ⟨_, rfl⟩
 unfold qP6 at hat
 rw [<- hP] at hi hat
 have HI := hid hi
 clear hi hP
 have hdone : ∀ (w3 w4 w5 : World) (g : Nat) (v1 : Value), Nw w1 w3 -> v1.ownBlock = some g -> Row w4 B 199 2 v1 ((q.ma).map qA2 ++ [qG8]) -> Blk w4 C [V.sa, v1] 155 -> Fr (fun k => some k = V.ma.ownBlock ∨ k = C) w3 w4 -> (v1.ownBlock = V.ma.ownBlock ∨ ∃ b, v1.ownBlock = some b /\ w3.heap.size <= b) -> qAb t.key -> qAb t.val →
  Row w5 B 199 2 v1 ((q.ma ++ [t]).map qA2) -> Fr (fun k => k = g) w4 w5 -> qAr V.pro B w L D C s r (q.app (.ma t)) 281 (.returned (.tuple #[fv 281, .nilIface])) w5 := by
  intro w3 w4 w5 g v1 hn hg hr4 hC4 hf4 ho4 hk1 hk2 hr5 hf5
  have h3 := h1.nw hn
  have hgC : ¬ C = g := fun e => by
   rcases ho4 with h6 | ⟨b, h6, h7⟩
   · have := (h3.kp.ma (fun e => e)).2 g (by rw [<- h6, hg])
     rw [<- e, h3.rC] at this; cases this
   rw [hg] at h6
   have := Option.some.inj h6
   have := h3.cc.lt
   omega
  have hf35 : Fr (fun k => some k = V.ma.ownBlock ∨ k = C) w3 w5 := hf4.trans (hf5.mono (fun k hk e => by
   rcases ho4 with h6 | ⟨b, h6, h7⟩
   · exact .inl (.inl (by rw [<- h6, hg, e]))
   rw [hg] at h6
   have := Option.some.inj h6
   exact .inr (by omega)))
  obtain ⟨⟨ρ', h'⟩, hf'⟩ := h3.addMa hr5 hf35 ho4 (hC4.fr hf5 hgC) ⟨hk1, hk2⟩
  exact qAr.mk h' ((hf1.mono (fun k _ e => e ▸ h.BL)).trans (((hn.fr _).trans (hf'.mono (fun k _ e => .inl e))).mono (fun k _ e => .inl e)))
 have HD := hid hdone
 clear hdone
 have hq := hN.ma
 have c1 := h1.lx.cell 1 rfl
 unfold pD at c1
 rcases hat with ⟨p0, p1, ht⟩ | ⟨p1, ht⟩
 · have HT := hid ht
   clear ht
   have b1 : (P : Int) <= (x.size : Int) := by omega
   have b2 : (P : Int) + 1 <= (x.size : Int) := by omega
   have b3 : (0 : Int) < (P : Int) := by omega
   go_upto_region 6 with (first | (go_at_call 254; (with_reducible refine HI.out.mono ?_); rw [if_pos p1]; rintro e w3 ⟨rfl, hn3⟩; have c3 := hn3.cell c1; have h3 := h1.nw hn3; have r3 : Row w3 B 199 2 V.ma (q.ma.map qA2) := (qAo.toFlat (h3.kp.ma (fun e => e)).1).1; have l3 : (List.map qA2 q.ma).length <= 1000000000 := (by simp; omega); have n3 : ¬ some C = V.ma.ownBlock := (fun e => by have h9 := (h3.kp.ma (fun e => e)).2 C e.symm; rw [h3.rC] at h9; cases h9); have bb3 : B <= w3.heap.size := (by have h8 := h3.BC; have h9 := h3.cc.lt; omega)) | (go_at_call 280; (with_reducible refine (qJb B C V.ma V.sa ((q.ma).map qA2) _ h3.cc r3 l3 n3 bb3).mono ?_); rintro e w4 ⟨g, v1, rfl, hg, hr4, hC4, hf4, ho4⟩))
   have hL1 : (q.ma.map qA2).length = q.ma.length := by simp
   have y0 : w4.cell? ⟨g, q.ma.length * 2, none⟩ = some (.string ⟨#[]⟩) := by
    have := hr4.cell hg (k := (q.ma.map qA2).length) (j := 0) (r := qG8) (qCr _ _) rfl
    rwa [hL1] at this
   have y1 : w4.cell? ⟨g, q.ma.length * 2 + 1, none⟩ = some (.string ⟨#[]⟩) := by
    have := hr4.cell hg (k := (q.ma.map qA2).length) (j := 1) (r := qG8) (qCr _ _) rfl
    rwa [hL1] at this
   have z0 : w4.frozen? ⟨g, q.ma.length * 2, none⟩ = false := hr4.fz hg
   have z1 : w4.frozen? ⟨g, q.ma.length * 2 + 1, none⟩ = false := hr4.fz hg
   go_wp2
   go_ret2
   have hr5 := hr4.set hg (k := (q.ma.map qA2).length) (j := 0) (u := .string (x.extract 0 P)) (qCr _ _) (by decide) rfl
   rw [qFy] at hr5
   have hr6 := hr5.set hg (k := (q.ma.map qA2).length) (j := 1) (u := .string (x.extract (P + 1) x.size)) (qCr _ _) (by decide) rfl
   rw [qFy, hL1] at hr6
   refine HD.out w3 w4 _ g v1 hn3 hg hr4 (by simpa using hC4) hf4 ho4 (by rw [HT.out]; exact qAs _ _ hwx) (by rw [HT.out]; exact qAs _ _ hwx) (by rw [HT.out]; simpa [qA2, qG8] using hr6) (by (apply_rules [Fr.refl, Fr.drew, Fr.drewN, Fr.alloc, Fr.put]))
 have HT := hid ht
 clear ht
 go_upto_region 6 with (first | (go_at_call 254; (with_reducible refine HI.out.mono ?_); rw [if_neg p1]; rintro e w3 ⟨rfl, hn3⟩; have c3 := hn3.cell c1; have h3 := h1.nw hn3; have r3 : Row w3 B 199 2 V.ma (q.ma.map qA2) := (qAo.toFlat (h3.kp.ma (fun e => e)).1).1; have l3 : (List.map qA2 q.ma).length <= 1000000000 := (by simp; omega); have n3 : ¬ some C = V.ma.ownBlock := (fun e => by have h9 := (h3.kp.ma (fun e => e)).2 C e.symm; rw [h3.rC] at h9; cases h9); have bb3 : B <= w3.heap.size := (by have h8 := h3.BC; have h9 := h3.cc.lt; omega)) | (go_at_call 280; (with_reducible refine (qJb B C V.ma V.sa ((q.ma).map qA2) _ h3.cc r3 l3 n3 bb3).mono ?_); rintro e w4 ⟨g, v1, rfl, hg, hr4, hC4, hf4, ho4⟩))
 have hL1 : (q.ma.map qA2).length = q.ma.length := by simp
 have y0 : w4.cell? ⟨g, q.ma.length * 2, none⟩ = some (.string ⟨#[]⟩) := by
  have := hr4.cell hg (k := (q.ma.map qA2).length) (j := 0) (r := qG8) (qCr _ _) rfl
  rwa [hL1] at this
 have z0 : w4.frozen? ⟨g, q.ma.length * 2, none⟩ = false := hr4.fz hg
 go_wp2
 go_ret2
 have hr5 := hr4.set hg (k := (q.ma.map qA2).length) (j := 0) (u := .string x) (qCr _ _) (by decide) rfl
 rw [qFy, hL1] at hr5
 refine HD.out w3 w4 _ g v1 hn3 hg hr4 (by simpa using hC4) hf4 ho4 (by rw [HT.out]; exact hwx) (by rw [HT.out]; show (0 : Nat) <= _; exact Nat.zero_le _) (by rw [HT.out]; simpa [qA2, qG8, strE] using hr5) (by (apply_rules [Fr.refl, Fr.drew, Fr.drewN, Fr.alloc, Fr.put]))
end Go.Proofs.YtcepdjlknalmnaaGreatDoor

/- Laws of this claim. -/
import Derived.Test.YtcepdjlknalmnaaGreatDoorStepG
import Derived.Deep.RegionLaw
set_option linter.unusedSimpArgs false
set_option linter.unusedVariables false
namespace Go.Proofs.YtcepdjlknalmnaaGreatDoor
open Tryz
open Go.RowKit
attribute [local go_sem ↓] Go.wp_at_zero Go.wp_at_succ
theorem qJg (x : Bwd) : (qCj x).length = 3 /\ ∀ u ∈ qCj x, u.oneCell' = true := by
 refine ⟨rfl, fun u hu => ?_⟩
 simp only [qCj, List.mem_cons, List.not_mem_nil, or_false] at hu
 rcases hu with rfl | rfl | rfl <;> rfl
theorem PS.bwDone {B : Nat} {w3 W w6 : World} {ρ : Nat -> Nat} {L D C : Nat} {s : ByteArray} {p : Nat} {q : Pst} {V : Vs} {x : Bwd} {v6 : Value} (h : PS B w3 ρ L D C s p q V) (hn : Nw w3 W)
 (hr : Row w6 B 198 3 v6 (q.bws.map qCj ++ [qCj x])) (hf : Fr (fun k => some k = V.bws.ownBlock) W w6) (ho : v6.ownBlock = V.bws.ownBlock ∨ ∃ b, v6.ownBlock = some b /\ W.heap.size <= b) (hx : qAb x.ty /\ qAg .u64 x.n) :
 (∃ ρ', PS B (w6.setCell ⟨D, 13, none⟩ v6) ρ' L D C s p (q.app (.lb x)) { V with bws := v6 }) /\ Fr (fun k => B <= k) w3 (w6.setCell ⟨D, 13, none⟩ v6) := by
 have hown := (h.kp.bws (fun e => e)).2
 have hneD : ¬ some D = V.bws.ownBlock := fun e => by have := hown D e.symm; rw [h.rD] at this; cases this
 have hs := hn.size
 have hD := h.dd.lt
 have hD6 := (h.dd.nw hn).fr hf hneD
 refine h.addBw ?_ ?_ ?_ (hD6.set 13 v6) hx
 · rw [List.map_append]
   exact hr.fr (Fr.self (p := ⟨D, 13, none⟩) v6) (fun k hk e => by
    have hkD : k = D := e
    subst hkD
    rcases ho with h6 | ⟨b, h6, h7⟩
    · exact hneD (by rw [<- h6, hk])
    rw [hk] at h6
    have : k = b := Option.some.inj h6
    omega)
 · exact (hn.fr _).trans ((hf.mono (fun k _ e => .inl (.inl e))).setCell (.inl (.inl (.inr rfl))) v6)
 exact ho.imp (fun e => e) (fun ⟨b, h6, h7⟩ => ⟨b, h6, by omega⟩)
theorem PS.znDone {B : Nat} {w3 W w6 : World} {ρ : Nat -> Nat} {L D C : Nat} {s : ByteArray} {p : Nat} {q : Pst} {V : Vs} {x : Zon} {v6 : Value} (h : PS B w3 ρ L D C s p q V) (hn : Nw w3 W)
 (hr : Row w6 B 181 2 v6 (q.zones.map qJc ++ [qJc x])) (hf : Fr (fun k => some k = V.zones.ownBlock) W w6) (ho : v6.ownBlock = V.zones.ownBlock ∨ ∃ b, v6.ownBlock = some b /\ W.heap.size <= b) (hx : qAg .u64 x.time /\ qAg .i64 x.off) :
 (∃ ρ', PS B (w6.setCell ⟨D, 15, none⟩ v6) ρ' L D C s p (q.app (.lz [x])) { V with zones := v6 }) /\ Fr (fun k => B <= k) w3 (w6.setCell ⟨D, 15, none⟩ v6) := by
 have hown := (h.kp.zones (fun e => e)).2
 have hneD : ¬ some D = V.zones.ownBlock := fun e => by have := hown D e.symm; rw [h.rD] at this; cases this
 have hs := hn.size
 have hD := h.dd.lt
 have hD6 := (h.dd.nw hn).fr hf hneD
 refine h.addZone ?_ ?_ ?_ (hD6.set 15 v6) hx
 · rw [List.map_append]
   exact hr.fr (Fr.self (p := ⟨D, 15, none⟩) v6) (fun k hk e => by
    have hkD : k = D := e
    subst hkD
    rcases ho with h6 | ⟨b, h6, h7⟩
    · exact hneD (by rw [<- h6, hk])
    rw [hk] at h6
    have : k = b := Option.some.inj h6
    omega)
 · exact (hn.fr _).trans ((hf.mono (fun k _ e => .inl (.inl e))).setCell (.inl (.inl (.inr rfl))) v6)
 exact ho.imp (fun e => e) (fun ⟨b, h6, h7⟩ => ⟨b, h6, by omega⟩)
set_option maxRecDepth 100000 in
set_option maxHeartbeats 1000000 in
theorem step_lb (B : Nat) (w : World) (ρ : Nat -> Nat) (L D C : Nat) (s : ByteArray) (p m r : Nat) (q : Pst) (V : Vs) (N : Nat) (b : Bwd) (h : PS B w ρ L D C s p q V) (hs : qAb s) (hN : Small N q) (hN2 : N <= 1000000000) (hpm : p <= m) (hW : Whole s p m) (hle : qA5 s m r)
 (hb : bwB b = true) (hwb : qAb b.ty /\ qAg .u64 b.n) (hx : s.extract p m = mk (qF8 b)) (hsz : (qF8 b).length <= 1000000000000) :
 Calls prog 222 #[.pointer (some ⟨L, 0, none⟩)] w (qAr V.pro B w L D C s r (q.app (.lb b)) 230) := by
 go_enter func222, ntmps222
 go_upto_region 4 with (go_at_call 213; (with_reducible refine (qBk L _ _ s p m r _ h.lx hs hpm hW hle).mono ?_); rw [hx]; rintro e w1 ⟨rfl, hx1, hf1⟩; have h1 := h.lex hf1 hx1)
 go_upto_region 7 with (go_at_call 231; (with_reducible refine (par_bw b w1 hb hwb hsz).mono ?_); rintro e w3 ⟨g, rfl, hg1, hB3, hn3⟩)
 have h3 := h1.nw hn3
 have hrow : Row w3 B 198 3 V.bws (q.bws.map qCj) := (qAo.toFlat (h3.kp.bws (fun e => e)).1).1
 have hown := (h3.kp.bws (fun e => e)).2
 have l0 := h3.lx.cell 0 rfl
 unfold pD at l0
 have d13 := h3.dd.cell 13 rfl
 have e13 := h3.dd.fz 13
 have g0 := hB3.cell 0 (u := .bool b.x) rfl
 have g1 := hB3.cell 1 (u := .string b.ty) rfl
 have g2 := hB3.cell 2 (u := .int .u64 b.n) rfl
 have nD := h3.dd.lt
 have nL := h3.lx.lt
 have nG := hB3.lt
 have hrl : (q.bws.map qCj).length <= 1000000000 := by have := hN.bws; simp; omega
 have hBw : B <= w3.heap.size := by have := h3.BD; omega
 have hneD : ¬ some D = V.bws.ownBlock := fun e => by have := hown D e.symm; rw [h3.rD] at this; cases this
 have hneL : ¬ some L = V.bws.ownBlock := fun e => by have := hown L e.symm; rw [h3.rL] at this; cases this
 go_region_law ((refine qA3 rfl ?_; (with_reducible refine qAn B (.tmp 35) (.tmp 39) 108 198 3 (.agg #[.bool false, .string ⟨#[]⟩, .int .u64 0]) 32 ?_ underlying108 inf198 ?_ ?_ V.bws (q.bws.map qCj) (qCj b) ?_ w3.heap.size ?_ (qJg b) ?_ ?_ ?_ ?_ ?_ ?_); (focus rfl); (focus rfl); (focus decide); (focus rfl); (focus rfl); (focus (exact fun j u hu => Blk.cell (Blk.made w3 (qCj b) 198).drew j hu)); (focus (exact (hrow.alloc _).nw (Nw.refl _).drew)); (focus (simp; omega)); (focus omega); (focus omega); intro v6 w6 hr6 hf6 ho6); obtain ⟨Av, cv, rfl, _⟩ := hr6.form; have hD6 := (h3.dd.alloc _).drew.fr hf6 hneD; have k6 := hD6.cell 13 rfl; have z6 := hD6.fz 13; have y6 : w6.cell? ⟨L, 0, none⟩ = some (.pointer (some ⟨D, 0, none⟩)) := ((Blk.alloc h3.lx _).drew.fr hf6 hneL).cell 0 rfl)
 all_goals
  go_wp2
  go_ret2
  obtain ⟨⟨ρ', h'⟩, hf'⟩ := h3.bwDone (((Nw.refl _).alloc _).drew) hr6 hf6 ho6 hwb
  refine qAr.mk (by simpa using h') (by simpa using (hf1.mono (fun k _ e => e ▸ h.BL)).trans (((hn3.fr _).trans (hf'.mono (fun k _ e => .inl e))).mono (fun k _ e => .inl e))) ?_
  rfl
end Go.Proofs.YtcepdjlknalmnaaGreatDoor

/- Laws of this claim. -/
import Derived.Test.YtcepdjlknalmnaaGreatDoorRepC
import Derived.Deep.RegionLaw
set_option linter.unusedSimpArgs false
set_option linter.unusedVariables false
namespace Go.Proofs.YtcepdjlknalmnaaGreatDoor
open Tryz
open Go.RowKit
attribute [local go_sem ↓] Go.wp_at_zero Go.wp_at_succ
set_option maxRecDepth 100000 in
set_option maxHeartbeats 1000000 in
theorem step_lt (B : Nat) (hB : 0 < B) (w : World) (ρ : Nat -> Nat) (L D C : Nat) (s : ByteArray) (p m1 p1 m r : Nat) (F1 F2 : Nat -> Int) (q : Pst) (V : Vs) (a : Addr) (N : Nat) (h : PS B w ρ L D C s p q V) (hs : qAb s) (hE : Eof w a) (hN : Small N q) (hN2 : N <= 1000000000)
 (h1 : p <= m1) (hF1 : Digits s p m1 F1) (hs1 : qCl s m1 p1) (h2 : p1 <= m) (hF2 : Digits s p1 m F2) (hle : qA5 s m r) (hn : NextAt s r) (rp : List Rep) :
 Calls prog 223 #[.pointer (some ⟨L, 0, none⟩)] w (qAr V.pro B w L D C s r (q.app (.lt ⟨F1 m1, F2 m, rp⟩)) 232) := by
 have hsz := hle.size
 have hl0 := h.lne
 have hB0 : B <= 0 -> False := fun e => by omega
 obtain ⟨g, hg⟩ : ∃ g, g = w.heap.size := ⟨_, rfl⟩
 have hgL : ¬ g = L := fun e => by have := h.lx.lt; omega
 obtain ⟨w0, hw0⟩ : ∃ w0, w0 = w.alloc (.cells #[.int .u64 0, .int .u64 0, .slice none 0 0] 177) := ⟨_, rfl⟩
 have hF0 : Fr (fun k => k = L) w w0 := by rw [hw0]; (apply_rules [Fr.refl, Fr.drew, Fr.drewN, Fr.alloc, Fr.put])
 have h0 : PS B w0 (ext ρ w.heap.size (fun _ => 0)) L D C s p q V := by rw [hw0]; exact h.lexN (by (apply_rules [Fr.refl, Fr.drew, Fr.drewN, Fr.alloc, Fr.put])) (Blk.alloc h.lx _)
 have hB0' : Blk w0 g [.int .u64 0, .int .u64 0, .slice none 0 0] 177 := by rw [hw0, hg]; exact Blk.made w _ 177
 go_enter func223, ntmps223
 go_upto_region 3 with fail
 rw [<- hw0, <- hg]
 have HG := Lib.hid hg
 clear hw0 hg
 have hE0 : Eof w0 a := hE.fr hF0 (fun e => hl0 e.symm)
 go_upto_region 6 with (go_at_call 144; (with_reducible refine (qBd L (pD D) (pD C) s p m1 p1 F1 a _ h0.lx hs hE0 hl0 h1 hF1 hs1).mono ?_); rintro e w1 ⟨rfl, hX1, hF1'⟩; have hB1 := hB0'.fr hF1' hgL; have c1 := hB1.cell 0 rfl; have f1 := hB1.fz 0)
 obtain ⟨w2, hw2⟩ : ∃ w2, w2 = w1.setCell ⟨g, 0, none⟩ (.int .u64 (F1 m1)) := ⟨_, rfl⟩
 have hX2 : Lx w2 L (pD D) (pD C) s p1 := by rw [hw2]; exact Blk.other hX1 (fun e => hgL e.symm) _
 have hB2 : Blk w2 g [.int .u64 (F1 m1), .int .u64 0, .slice none 0 0] 177 := by rw [hw2]; exact hB1.set 0 _
 have hF2' : Fr (fun k => k = L) w w2 := by rw [hw2]; exact (hF0.trans (hF1'.mono (fun k _ e => .inl e))).setCell (.inr (Nat.le_of_eq HG.out.symm)) _
 rw [<- hw2]
 clear hw2 hX1 hB1 c1 f1 hF1'
 have hE2 : Eof w2 a := hE.fr hF2' (fun e => hl0 e.symm)
 go_upto_region 9 with (go_at_call 144; (with_reducible refine (qBd L (pD D) (pD C) s p1 m m F2 a _ hX2 hs hE2 hl0 h2 hF2 hle.stops).mono ?_); rintro e w3 ⟨rfl, hX3, hF3⟩; have hB3 := hB2.fr hF3 hgL; have c1 := hB3.cell 1 rfl; have f1 := hB3.fz 1)
 obtain ⟨w4, hw4⟩ : ∃ w4, w4 = w3.setCell ⟨g, 1, none⟩ (.int .u64 (F2 m)) := ⟨_, rfl⟩
 have hX4 : Lx w4 L (pD D) (pD C) s m := by rw [hw4]; exact Blk.other hX3 (fun e => hgL e.symm) _
 have hB4 : Blk w4 g [.int .u64 (F1 m1), .int .u64 (F2 m), .slice none 0 0] 177 := by rw [hw4]; exact hB3.set 1 _
 have hF4 : Fr (fun k => k = L) w w4 := by rw [hw4]; exact (hF2'.trans (hF3.mono (fun k _ e => .inl e))).setCell (.inr (Nat.le_of_eq HG.out.symm)) _
 rw [<- hw4]
 clear hw4 hX3 hB3 c1 f1 hF3
 have hE4 : Eof w4 a := hE.fr hF4 (fun e => hl0 e.symm)
 go_upto_region 12 with (go_at_call 145; (with_reducible refine (qCe L (pD D) (pD C) s m r a _ hX4 hs hE4 hl0 hsz.1 hsz.2 hle.nl hn).mono ?_); rintro e w5 ⟨rfl, hX5, hF5⟩)
 have hB5 := hB4.fr hF5 hgL
 have hFw : Fr (fun k => k = L) w w5 := hF4.trans (hF5.mono (fun k _ e => .inl e))
 have h5 := h.lexN hFw hX5
 obtain ⟨rows, ht⟩ := h5.kp.times (fun e => e) (fun e => e)
 have l0 := h5.lx.cell 0 rfl
 unfold pD at l0
 have d14 := h5.dd.cell 14 rfl
 have e14 := h5.dd.fz 14
 have g0 := hB5.cell 0 rfl
 have g1 := hB5.cell 1 rfl
 have g2 := hB5.cell 2 rfl
 have nD := h5.dd.lt
 have nL := h5.lx.lt
 have nG := hB5.lt
 have hrl : rows.length <= 1000000001 := by
  have := ht.len; have := hN.td
  have h3 : q.tc.toList.length <= 1 := by cases q.tc <;> simp
  omega
 clear hX2 hX4 hB2 hB4 hE2 hE4 hF2' hF4 hF5 hX5 hB0' h0 hF0
 have hBw : B <= w5.heap.size := by have := h5.BD; omega
 have hR : ([.int .u64 (F1 m1), .int .u64 (F2 m), .slice none 0 0] : List Value).length = 3 /\ ∀ u ∈ ([.int .u64 (F1 m1), .int .u64 (F2 m), .slice none 0 0] : List Value), u.oneCell' = true := by
  refine ⟨rfl, fun u hu => ?_⟩
  simp only [List.mem_cons, List.not_mem_nil, or_false] at hu
  rcases hu with rfl | rfl | rfl <;> rfl
 have hneD : ¬ some D = V.times.ownBlock := fun e => by have := ht.own D e.symm; rw [h5.rD] at this; cases this
 have hneL : ¬ some L = V.times.ownBlock := fun e => by have := ht.own L e.symm; rw [h5.rL] at this; cases this
 go_region_law ((refine qA3 rfl ?_; (with_reducible refine qAn B (.tmp 48) (.tmp 50) 109 177 3 (.agg #[.int .u64 0, .int .u64 0, .slice none 0 0]) 40 ?_ underlying109 inf177 ?_ ?_ V.times rows [.int .u64 (F1 m1), .int .u64 (F2 m), .slice none 0 0] ?_ w5.heap.size ?_ hR ?_ ?_ ?_ ?_ ?_ ?_); (focus rfl); (focus rfl); (focus decide); (focus rfl); (focus rfl); (focus (exact fun j u hu => Blk.cell (Blk.made w5 [.int .u64 (F1 m1), .int .u64 (F2 m), .slice none 0 0] 177).drew j hu)); (focus (exact (ht.row.alloc _).nw (Nw.refl _).drew)); (focus (simp; omega)); (focus omega); (focus omega); intro v6 w6 hr6 hf6 ho6); obtain ⟨Av, cv, rfl, _⟩ := hr6.form; have hD6 := (h5.dd.alloc _).drew.fr hf6 hneD; have k6 := hD6.cell 14 rfl; have z6 := hD6.fz 14; have y6 : w6.cell? ⟨L, 0, none⟩ = some (.pointer (some ⟨D, 0, none⟩)) := ((Blk.alloc h5.lx _).drew.fr hf6 hneL).cell 0 rfl)
 all_goals
  go_wp2
  go_ret2
  obtain ⟨⟨ρ', h'⟩, hf'⟩ := h5.addTime ht hN hN2 (((Nw.refl _).alloc _).drew) hr6 hf6 ho6 hF1.wf hF2.wf rp
  refine qAr.mk (by simpa using h') (by simpa using (hFw.mono (fun k _ e => e ▸ h.BL)).trans (hf'.mono (fun k _ e => .inl e))) ?_
  rfl
end Go.Proofs.YtcepdjlknalmnaaGreatDoor

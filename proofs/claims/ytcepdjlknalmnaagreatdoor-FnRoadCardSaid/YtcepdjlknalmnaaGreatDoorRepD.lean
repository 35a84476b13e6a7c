/- Laws of this claim. -/
import Derived.Test.YtcepdjlknalmnaaGreatDoorBwB
set_option linter.unusedSimpArgs false
set_option linter.unusedVariables false
namespace Go.Proofs.YtcepdjlknalmnaaGreatDoor
open Tryz
open Lib (itoa hid)
open Go.RowKit
theorem qP7 (ch : Int) (w : World) (h0 : 48 <= ch) (h1 : ch <= 57) : Calls prog 265 #[.int .u8 ch] w fun e w' => e = .returned (.int .i64 0) /\ w = w' := by
 have n1 : ¬ ch = 100 := by omega
 have n2 : ¬ ch = 104 := by omega
 have n3 : ¬ ch = 109 := by omega
 have n4 : ¬ ch = 115 := by omega
 go_enter func265, ntmps265
 go_wp2
 go_ret
 exact ⟨rfl, rfl⟩
theorem sgn_last {v : Int} : ∃ (l : List UInt8) (c : UInt8), (itoa v) = l ++ [c] /\ 48 <= c.toNat /\ c.toNat <= 57 := by
 have hd : ∀ n, ∃ (l : List UInt8) (c : UInt8), Lib.decDigits n = l ++ [c] /\ 48 <= c.toNat /\ c.toNat <= 57 := by
  intro n
  have hne := qJe n
  refine ⟨(Lib.decDigits n).dropLast, (Lib.decDigits n).getLast hne, (List.dropLast_concat_getLast hne).symm, ?_⟩
  exact qC7 n _ (List.getLast_mem hne)
 unfold itoa
 split
 · obtain ⟨l, c, h1, h2⟩ := hd v.natAbs
   exact ⟨45 :: l, c, by rw [h1]; rfl, h2⟩
 obtain ⟨l, c, h1, h2⟩ := hd v.toNat
 exact ⟨l, c, h1, h2⟩
theorem par_port (n : Nat) (w : World) (h : n <= 65535) : Calls prog 256 #[.string (mk (Lib.decDigits n))] w fun e w' => e = .returned (.tuple #[.int .i64 n, .nilIface]) /\ Nw w w' := by
 have hA := fun w1 => qMq n w1 (by omega)
 have n1 : ¬ (n : Int) < 0 := by omega
 have n2 : ¬ 65535 < (n : Int) := by omega
 go_enter func256, ntmps256
 go_wp2_with (go_at_call 257; (with_reducible refine (hA _).mono ?_); rintro e w1 ⟨rfl, q1⟩)
 go_ret2
 exact ⟨rfl, q1⟩
theorem qGz (v : Int) (w : World) (h0 : -9223372036854775808 < v) (h1 : v < 9223372036854775808) : Calls prog 251 #[.string (mk ((itoa v)))] w fun e w' => e = .returned (.tuple #[.int .i64 v, .nilIface]) /\ Nw w w' := by
 have hA := fun w1 => qK1 v w1 h0 h1
 obtain ⟨l, c, hl, hc0, hc1⟩ := sgn_last (v := v)
 have hsz := qE6 (n := v) ⟨by show -9223372036854775808 <= v; omega, by show v <= 9223372036854775807; omega⟩
 obtain ⟨x, hx⟩ : ∃ x, x = mk ((itoa v)) := ⟨_, rfl⟩
 have hxs : x.size = l.length + 1 := by rw [hx, qAy, hl]; simp
 have hxm : x.size <= 1000 := by rw [hx]; omega
 have hxl : ∀ h : l.length < x.size, x[l.length] = c := by
  rw [hx, hl]
  intro h
  rw [<- qDy h (by rw [qDe]; simp)]
  simp [qDe]
 rw [<- hx] at hA ⊢
 clear hx hl
 go_enter func251, ntmps251
 have hc : 48 <= ((c.toNat : Nat) : Int) := by omega
 have hc' : ((c.toNat : Nat) : Int) <= 57 := by omega
 have hlx : l.length < x.size := by omega
 have hxl := hxl hlx
 have hb1 : ¬ (l.length : Int) + 1 = 0 := by omega
 have hb2 : (0 : Int) <= (l.length : Int) := by omega
 go_upto_region 3 with fail
 go_upto_region 4 with (go_at_call 265; (with_reducible refine (qP7 _ _ hc hc').mono ?_); rintro e w1 ⟨rfl, rfl⟩)
 go_wp2_with (go_at_call 266; (with_reducible refine (hA _).mono ?_); rintro e w1 ⟨rfl, q1⟩)
 go_ret2
 exact ⟨rfl, q1⟩
end Go.Proofs.YtcepdjlknalmnaaGreatDoor
/- What the line of the time zones does. -/
namespace Go.Proofs.YtcepdjlknalmnaaGreatDoor
open Tryz
open Lib (itoa hid)
open Go.RowKit
attribute [local go_sem ↓] Go.wp_at_zero Go.wp_at_succ
inductive ZonesAt (s : ByteArray) (m : Nat) : Nat -> List Zon -> Prop
 | nil : ZonesAt s m m []
 | cons {p m1 p1 m2 p2 : Nat} {F : Nat -> Int} {z : Zon} {zs : List Zon} (h1 : p <= m1) (hF : Digits s p m1 F) (hz : F m1 = z.time) (hs1 : qCl s m1 p1) (h2 : p1 < m2) (hp : qB7 s p1 m2) (ho : s.extract p1 m2 = mk ((itoa z.off))) (hs2 : qCl s m2 p2) (hr : ZonesAt s m p2 zs) : ZonesAt s m p (z :: zs)
def ZonWf (z : Zon) : Prop := qAg .u64 z.time /\ -9223372036854775808 < z.off /\ z.off < 9223372036854775808
set_option maxRecDepth 100000 in
set_option maxHeartbeats 1000000 in
theorem step_lz (B : Nat) (w : World) (ρ : Nat -> Nat) (L D C : Nat) (s : ByteArray) (p m r : Nat) (q : Pst) (V : Vs) (a : Addr) (zs : List Zon) (h : PS B w ρ L D C s p q V) (hs : qAb s) (hE : Eof w a) (hle : qA5 s m r) (hn : NextAt s r)
 (hB : 0 < B) (hz : ZonesAt s m p zs) (hzw : ∀ z ∈ zs, ZonWf z) (hzl : q.zones.length + zs.length <= 1000000000) (hpm : p <= m) :
 Calls prog 242 #[.pointer (some ⟨L, 0, none⟩)] w (qAr V.pro B w L D C s r (q.app (.lz zs)) 252) := by
 have hsz := hle.size
 have hl0 := h.lne
 go_enter func242, ntmps242
 go_wp2
 go_loopg [] zs.length (fun n wr => ∃ ρ' V' done rest p', n = rest.length /\ done ++ rest = zs /\ PS B wr ρ' L D C s p' (q.app (.lz done)) V' /\ V'.pro = V.pro /\ ZonesAt s m p' rest /\ Fr (fun k => B <= k) w wr)
 case atStart => exact ⟨ρ, V, [], zs, p, rfl, rfl, by simpa [Pst.app] using h, rfl, hz, Fr.refl _ _⟩
 obtain ⟨ρ', V', done, rest, p', hn', hd, h', hvp, hza, hfr⟩ := hrel
 have HN := hid hn'
 clear hn'
 obtain ⟨g, hg⟩ : ∃ g, g = wr.heap.size := ⟨_, rfl⟩
 have hgL : ¬ g = L := fun e => by have := h'.lx.lt; omega
 have hgw : wr.heap.size <= g := Nat.le_of_eq hg.symm
 obtain ⟨w0, hw0⟩ : ∃ w0, w0 = wr.alloc (.cells #[.int .u64 0, .int .i64 0] 181) := ⟨_, rfl⟩
 have hX0 : Lx w0 L (pD D) (pD C) s p' := by rw [hw0]; exact Blk.alloc h'.lx _
 have hF0 : Fr (fun k => k = L) wr w0 := by rw [hw0]; (apply_rules [Fr.refl, Fr.drew, Fr.drewN, Fr.alloc, Fr.put])
 have hB0 : Blk w0 g [.int .u64 0, .int .i64 0] 181 := by rw [hw0, hg]; exact Blk.made wr _ 181
 have hE0 : Eof w0 a := hE.fr (hfr.trans (hF0.mono (fun k _ e => .inl (e ▸ h'.BL)))) (fun e => by omega)
 go_upto_region 3 with fail
 rw [<- hw0, <- hg]
 have HG := hid hg
 clear hw0 hg
 cases hza with
 | nil =>
  have hD0 : Digits s m m (fun _ => 0) := ⟨rfl, fun _ => Int.le_refl _, fun _ _ => by decide, fun k h1 h2 => by omega⟩
  go_upto_region 6 with (go_at_call 144; (with_reducible refine (qBd L (pD D) (pD C) s m m m (fun _ => 0) a _ hX0 hs hE0 hl0 (Nat.le_refl _) hD0 hle.stops).mono ?_); rintro e w1 ⟨rfl, hX1, hF1⟩; have hB1 := hB0.fr hF1 hgL; have c1 := hB1.cell 0 rfl; have f1 := hB1.fz 0)
  obtain ⟨w2, hw2⟩ : ∃ w2, w2 = w1.setCell ⟨g, 0, none⟩ (.int .u64 0) := ⟨_, rfl⟩
  have hX2 : Lx w2 L (pD D) (pD C) s m := by rw [hw2]; exact Blk.other hX1 (fun e => hgL e.symm) _
  have hB2 : Blk w2 g [.int .u64 0, .int .i64 0] 181 := by rw [hw2]; exact hB1.set 0 _
  have hF2 : Fr (fun k => k = L) wr w2 := by rw [hw2]; exact (hF0.trans (hF1.mono (fun k _ e => .inl e))).setCell (.inr hgw) _
  have hE2 : Eof w2 a := hE.fr (hfr.trans (hF2.mono (fun k _ e => .inl (e ▸ h'.BL)))) (fun e => by omega)
  rw [<- hw2]
  clear hw2 hX1 hB1 c1 f1 hF1 hX0 hF0 hB0 hE0
  have hP0 : qB7 s m m := fun k h1 h2 => by omega
  have hx0 : s.extract m m = ⟨#[]⟩ := by rw [qDj]; exact congrArg mk (by simp)
  go_wp2_with (first | (go_at_call 173; (with_reducible refine (qAu L (pD D) (pD C) s m m m a _ hX2 hs hE2 hl0 (Nat.le_refl _) hP0 hle.stops).mono ?_); rw [hx0]; rintro e w3 ⟨rfl, hX3, hF3⟩; have hE3 : Eof w3 a := hE2.fr hF3 (fun e => hl0 e.symm)) | (go_at_call 145; (with_reducible refine (qCe L _ _ s m r a _ hX3 hs hE3 hl0 hsz.1 hsz.2 hle.nl hn).mono ?_); rintro e w8 ⟨rfl, hX8, hF8⟩))
  go_ret2
  have hF8' : Fr (fun k => k = L) wr w8 := (hF2.trans (hF3.mono (fun k _ e => .inl e))).trans (hF8.mono (fun k _ e => .inl e))
  have h8 := h'.lexN hF8' hX8
  rw [List.append_nil] at hd
  rw [hd] at h8
  exact qAr.mk h8 (hfr.trans (hF8'.mono (fun k _ e => .inl (e ▸ h'.BL)))) hvp
 | cons h1 hF hz hs1 h2 hp ho hs2 hr =>
  rename_i m1 p1 m2 p2 F z rest
  go_upto_region 6 with (go_at_call 144; (with_reducible refine (qBd L (pD D) (pD C) s p' m1 p1 F a _ hX0 hs hE0 hl0 h1 hF hs1).mono ?_); rintro e w1 ⟨rfl, hX1, hF1⟩; have hB1 := hB0.fr hF1 hgL; have c1 := hB1.cell 0 rfl; have f1 := hB1.fz 0)
  obtain ⟨w2, hw2⟩ : ∃ w2, w2 = w1.setCell ⟨g, 0, none⟩ (.int .u64 z.time) := ⟨_, rfl⟩
  have hX2 : Lx w2 L (pD D) (pD C) s p1 := by rw [hw2]; exact Blk.other hX1 (fun e => hgL e.symm) _
  have hB2 : Blk w2 g [.int .u64 z.time, .int .i64 0] 181 := by rw [hw2]; exact hB1.set 0 _
  have hF2 : Fr (fun k => k = L) wr w2 := by rw [hw2]; exact (hF0.trans (hF1.mono (fun k _ e => .inl e))).setCell (.inr hgw) _
  have hE2 : Eof w2 a := hE.fr (hfr.trans (hF2.mono (fun k _ e => .inl (e ▸ h'.BL)))) (fun e => by omega)
  rw [<- hw2]
  clear hw2 hX1 hB1 c1 f1 hF1 hX0 hF0 hB0 hE0
  obtain ⟨x, hx⟩ : ∃ x, x = s.extract p1 m2 := ⟨_, rfl⟩
  have hxe : x.toList.isEmpty = false := by
   have hlt := hs2.lt
   rw [hx, qE5]
   simp only [ByteArray.size_extract, decide_eq_false_iff_not]
   omega
  have hzm : ZonWf z := hzw z (by rw [<- hd]; simp)
  have hU := fun w1 => qGz z.off w1 hzm.2.1 hzm.2.2
  rw [<- ho, <- hx] at hU
  have HX := hid hx
  clear hx
  have HU := hid hU
  clear hU
  go_upto_region 10 with (go_at_call 173; (with_reducible refine (qAu L (pD D) (pD C) s p1 m2 p2 a _ hX2 hs hE2 hl0 (Nat.le_of_lt h2) hp hs2).mono ?_); rw [<- HX.out]; rintro e w3 ⟨rfl, hX3, hF3⟩; have hB3 := hB2.fr hF3 hgL)
  go_upto_region 13 with (go_at_call 251; (with_reducible refine (HU.out _).mono ?_); rintro e w4 ⟨rfl, q4⟩; have hB4 := hB3.nw q4; have c4 := hB4.cell 1 rfl; have f4 := hB4.fz 1)
  obtain ⟨w5, hw5⟩ : ∃ w5, w5 = w4.setCell ⟨g, 1, none⟩ (.int .i64 z.off) := ⟨_, rfl⟩
  have hX5 : Lx w5 L (pD D) (pD C) s p2 := by rw [hw5]; exact Blk.other (Blk.nw hX3 q4) (fun e => hgL e.symm) _
  have hB5 : Blk w5 g [.int .u64 z.time, .int .i64 z.off] 181 := by rw [hw5]; exact hB4.set 1 _
  have hF5 : Fr (fun k => k = L) wr w5 := by rw [hw5]; exact ((hF2.trans (hF3.mono (fun k _ e => .inl e))).trans (q4.fr _)).setCell (.inr hgw) _
  rw [<- hw5]
  clear hw5 hX3 hB3 hB4 c4 f4 hF3 hX2 hB2 hE2 hF2
  have h5 := h'.lexN hF5 hX5
  obtain ⟨q', hq'⟩ : ∃ q', q' = q.app (.lz done) := ⟨_, rfl⟩
  have hzl' : q'.zones.length <= 1000000000 := by
   rw [hq']
   show (q.zones ++ done).length <= _
   rw [List.length_append]
   have : done.length <= zs.length := by rw [<- hd]; simp
   omega
  rw [<- hq'] at h5
  have HQ := hid hq'
  clear hq' h'
  have hrow : Row w5 B 181 2 V'.zones (q'.zones.map qJc) := (qAo.toFlat (h5.kp.zones (fun e => e)).1).1
  have hown := (h5.kp.zones (fun e => e)).2
  have l0 := h5.lx.cell 0 rfl
  unfold pD at l0
  have d15 := h5.dd.cell 15 rfl
  have e15 := h5.dd.fz 15
  have g0 := hB5.cell 0 (u := .int .u64 z.time) rfl
  have g1 := hB5.cell 1 (u := .int .i64 z.off) rfl
  have nD := h5.dd.lt
  have nL := h5.lx.lt
  have nG := hB5.lt
  have hrl : (q'.zones.map qJc).length <= 1000000000 := by simpa using hzl'
  have hBw : B <= w5.heap.size := by have := h5.BD; omega
  have hneD : ¬ some D = V'.zones.ownBlock := fun e => by have := hown D e.symm; rw [h5.rD] at this; cases this
  have hneL : ¬ some L = V'.zones.ownBlock := fun e => by have := hown L e.symm; rw [h5.rL] at this; cases this
  have hz1 : ([.int .u64 z.time, .int .i64 z.off] : List Value).length = 2 /\ ∀ u ∈ ([.int .u64 z.time, .int .i64 z.off] : List Value), u.oneCell' = true := by
   refine ⟨rfl, fun u hu => ?_⟩
   simp only [List.mem_cons, List.not_mem_nil, or_false] at hu
   rcases hu with rfl | rfl <;> rfl
  go_region_law ((refine qA3 rfl ?_; (with_reducible refine qAn B (.tmp 50) (.tmp 52) 110 181 2 (.agg #[.int .u64 0, .int .i64 0]) 16 ?_ underlying110 inf181 ?_ ?_ V'.zones (q'.zones.map qJc) [.int .u64 z.time, .int .i64 z.off] ?_ w5.heap.size ?_ hz1 ?_ ?_ ?_ ?_ ?_ ?_); (focus rfl); (focus rfl); (focus decide); (focus rfl); (focus rfl); (focus (exact fun j u hu => Blk.cell (Blk.made w5 [.int .u64 z.time, .int .i64 z.off] 181).drew j hu)); (focus (exact (hrow.alloc _).nw (Nw.refl _).drew)); (focus (simp; omega)); (focus omega); (focus omega); intro v6 w6 hr6 hf6 ho6); obtain ⟨Av, cv, rfl, _⟩ := hr6.form; have hD6 := (h5.dd.alloc _).drew.fr hf6 hneD; have k6 := hD6.cell 15 rfl; have z6 := hD6.fz 15; have y6 : w6.cell? ⟨L, 0, none⟩ = some (.pointer (some ⟨D, 0, none⟩)) := ((Blk.alloc h5.lx _).drew.fr hf6 hneL).cell 0 rfl)
  all_goals
   go_wp2
   obtain ⟨⟨ρ6, h6⟩, hf6'⟩ := h5.znDone (x := z) (((Nw.refl _).alloc _).drew) hr6 hf6 ho6 ⟨hzm.1, by show -9223372036854775808 <= z.off; have := hzm.2.1; omega, by show z.off <= 9223372036854775807; have := hzm.2.2; omega⟩
   have hqq : q'.app (.lz [z]) = q.app (.lz (done ++ [z])) := by rw [HQ.out]; simp [Pst.app]
   rw [hqq] at h6
   simp only [List.length_append, List.length_map, List.length_cons, List.length_nil, Nat.zero_add] at h6 hf6'
   have hfz := (hfr.trans (hF5.mono (fun k _ e => .inl (e ▸ h.BL)))).trans (hf6'.mono (fun k _ e => .inl e))
   go_roundg rest.length
   case measure => rw [HN.out]; simp
   case rel => exact ⟨ρ6, _, done ++ [z], rest, p2, rfl, by rw [<- hd]; simp, h6, hvp, hr, hfz⟩
end Go.Proofs.YtcepdjlknalmnaaGreatDoor
/- One more repeat of the time that is being read. -/
namespace Go.Proofs.YtcepdjlknalmnaaGreatDoor
open Tryz
open Lib (itoa hid)
open Go.RowKit
theorem PS.addRep {B : Nat} {w w1 w6 : World} {ρ : Nat -> Nat} {L D C T : Nat} {s : ByteArray} {p : Nat} {q : Pst} {V : Vs} {rows rr : List (List Value)} {t : Tim} {x : Rep} {r : List Value} {v6 : Value} (h : PS B w ρ L D C s p q V)
 (hT : TimK ρ w B V.times V.reps q.td q.tc rows) (htc : q.tc = some t) (hn : Nw w w1) (hx : qAq (fun W => qDc.rel W x r) w (fun k => ρ k = 0))
 (hrr : Row w B 178 3 V.reps rr) (hl : rr.length = t.reps.length) (hg : ∀ (i : Nat) x r, t.reps[i]? = some x -> rr[i]? = some r -> qAq (fun W => qDc.rel W x r) w (fun k => ρ k = 0 /\ ¬ some k = V.reps.ownBlock))
 (hr : Row w6 B 178 3 v6 (rr ++ [r])) (hf : Fr (fun k => some k = V.reps.ownBlock) w1 w6) (ho : v6.ownBlock = V.reps.ownBlock ∨ ∃ b, v6.ownBlock = some b /\ w1.heap.size <= b) (hgT : V.times.ownBlock = some T) (h1 : v6.oneCell' = true) :
 (∃ ρ', PS B (w6.setCell ⟨T, q.td.length * 3 + 2, none⟩ v6) ρ' L D C s p (q.app (.lr x)) { V with reps := v6 }) /\ Fr (fun k => B <= k) w (w6.setCell ⟨T, q.td.length * 3 + 2, none⟩ v6) := by
 have hBw : B <= w.heap.size := by have := h.BD; have := h.dd.lt; omega
 obtain ⟨l1, l2, l3, l4⟩ := hT.last t htc
 have hTr : ρ T = 8 := hT.own T hgT
 have hTb := hT.row.base T hgT
 have hown := l4.2
 have hF : Fr (fun k => some k = V.reps.ownBlock ∨ k = T) w (w6.setCell ⟨T, q.td.length * 3 + 2, none⟩ v6) :=
  ((hn.fr _).trans (hf.mono (fun k _ e => .inl (.inl e)))).setCell (.inl (.inr rfl)) _
 have ho' : v6.ownBlock = V.reps.ownBlock ∨ ∃ b, v6.ownBlock = some b /\ w.heap.size <= b := ho.imp id (fun ⟨b, h1, h2⟩ => ⟨b, h1, Nat.le_trans hn.size h2⟩)
 have hlt : ∀ k, V.reps.ownBlock = some k -> k < w.heap.size := fun k hk => (hrr.base k hk).2
 have hS : ∀ k, k < w.heap.size -> (some k = V.reps.ownBlock ∨ k = T) -> ρ k = 9 ∨ ρ k = 8 := fun k _ e => e.imp (fun e => hown k e.symm) (fun e => by rw [e]; exact hTr)
 have hvT : ∀ k, v6.ownBlock = some k -> ¬ k = T := fun k e1 e => by
  rcases ho' with h1 | ⟨b, h1, h2⟩
  · have := hown T (by rw [<- h1, e1, e]); rw [hTr] at this; cases this
  rw [e1] at h1; have : k = b := Option.some.inj h1; have := hTb.2; omega
 have hneT : ∀ k, V.times.ownBlock = some k -> ¬ some k = V.reps.ownBlock := fun k hk e => by
  have a1 := hT.own k hk
  have a2 := hown k e.symm
  omega
 have hb : ∀ k, k < w.heap.size -> ρ k = 0 -> ¬ some k = v6.ownBlock := fun k hk e0 e => by
  rcases ho' with h1 | ⟨b, h1, h2⟩
  · have := hown k (by rw [<- h1, <- e]); omega
  rw [h1] at e; have : k = b := Option.some.inj e; omega
 refine ⟨?_, hF.mono (fun k _ e => e.elim (fun e => (hrr.base k e.symm).1) (fun e => e ▸ hTb.1))⟩
 refine ⟨qI1 ρ w.heap.size (fun i => i) v6 9, ?_⟩
 have hk := h.kp.keep (R' := fun i => i = 8 ∨ i = 9) (ρ' := qI1 ρ w.heap.size (fun i => i) v6 9) hF (fun k hk e => by have := hS k hk e; omega) (fun _ e => e.elim) (by decide) (fun k hk e => qAj hk) (fun k hk => qD5 h.kp.zero rfl hBw hk)
 refine ⟨by rw [qAj h.lx.lt, h.rL], by rw [qAj h.dd.lt, h.rD], by rw [qAj h.cc.lt, h.rC], by rw [qAj h.size0, h.rz],
  h.lx.fr hF (fun e => by have := hS L h.lx.lt e; rw [h.rL] at this; omega), h.dd.fr hF (fun e => by have := hS D h.dd.lt e; rw [h.rD] at this; omega), h.cc.fr hF (fun e => by have := hS C h.cc.lt e; rw [h.rC] at this; omega), ?_, h.wfo⟩
 refine ⟨hk.zero, hk.info, hk.uri, hk.email, hk.phone, hk.conn, hk.key, fun _ => hk.bws (by decide), fun _ => hk.zones (by decide), fun _ => hk.sa (by decide), fun _ => hk.ma (by decide), fun _ _ => ⟨rows.set q.td.length [.int .u64 t.start, .int .u64 t.stop, v6], ?_⟩, fun _ _ _ => hk.media (by decide) (by decide) (by decide)⟩
 have htc' : (q.app (.lr x)).tc = some { t with reps := t.reps ++ [x] } := by simp [Pst.app, htc]
 have htd' : (q.app (.lr x)).td = q.td := rfl
 have hkl := (List.getElem?_eq_some_iff.1 l1).1
 rw [htc', htd']
 have hrow7 : Row (w6.setCell ⟨T, q.td.length * 3 + 2, none⟩ v6) B 177 3 V.times (rows.set q.td.length [.int .u64 t.start, .int .u64 t.stop, v6]) :=
  ((hT.row.nw hn).fr hf (fun k hk e => hneT k hk e)).set (j := 2) hgT l1 (by decide) h1
 refine ⟨hrow7, fun k hk => by rw [qAj (hT.row.base k hk).2]; exact hT.own k hk, by rw [List.length_set, hT.len, htc]; rfl, ?_, (fun e => by cases e), ?_⟩
 · intro i y ry hi hr'
   have hil := (List.getElem?_eq_some_iff.1 hi).1
   rw [List.getElem?_set_ne (by omega)] at hr'
   exact (hT.done i y ry hi hr').keep0 hF (fun k hk e => by have := hS k hk e; omega) (fun k hk e => by rw [qAj hk, e])
 intro t' ht'
 obtain rfl := Option.some.inj ht'
 refine ⟨by rw [List.getElem?_set_self hkl], l2, l3, ⟨rr ++ [r], hr.fr (Fr.self (p := ⟨T, q.td.length * 3 + 2, none⟩) v6) (fun k hk e => hvT k hk e), by simp [hl], ?_⟩, qE9 hown rfl ho' hlt⟩
 intro i y ry hi hr'
 have hil := (List.getElem?_eq_some_iff.1 hi).1
 have hmain : qAq (fun W => qDc.rel W y ry) w (fun k => ρ k = 0) := by
  rcases Nat.lt_or_ge i t.reps.length with hlt2 | hge
  · rw [List.getElem?_append_left hlt2] at hi
    rw [List.getElem?_append_left (by omega)] at hr'
    exact (hg i y ry hi hr').mono (fun k _ e => e.1)
  have hi2 : i = t.reps.length := by simp at hil; omega
  subst hi2
  rw [List.getElem?_append_right (Nat.le_refl _), Nat.sub_self] at hi
  rw [<- hl, List.getElem?_append_right (Nat.le_refl _), Nat.sub_self] at hr'
  obtain rfl : x = y := by simpa using hi
  obtain rfl : r = ry := by simpa using hr'
  exact hx
 exact (hmain.fr hF (fun k hk e1 e2 => by have := hS k hk e2; omega)).mono (fun k _ e => ⟨(qAj e.2).trans e.1, hb k e.2 e.1⟩)
end Go.Proofs.YtcepdjlknalmnaaGreatDoor

/- Laws of this claim. -/
import Derived.Test.YtcepdjlknalmnaaGreatDoorRepD
set_option linter.unusedSimpArgs false
set_option linter.unusedVariables false
namespace Go.Proofs.YtcepdjlknalmnaaGreatDoor
open Tryz
open Lib (itoa hid)
open Go.RowKit
attribute [local go_sem ↓] Go.wp_at_zero Go.wp_at_succ
inductive OffsAt (s : ByteArray) (m : Nat) : Nat -> List Int -> Prop
 | nil : OffsAt s m m []
 | cons {p m1 p1 : Nat} {o : Int} {os : List Int} (h1 : p < m1) (hp : qB7 s p m1) (ho : s.extract p m1 = mk ((itoa o))) (hs1 : qCl s m1 p1) (hr : OffsAt s m p1 os) : OffsAt s m p (o :: os)
def I64 (v : Int) : Prop := -9223372036854775808 < v /\ v < 9223372036854775808
theorem inf2 : (prog.info? 2).map (fun i => (i.zero, i.size, i.bytes)) = some (some (.int .i64 0), 1, 8) := by kernel_rfl
def qP8 (o : Int) : List Value := [.int .i64 o]
set_option maxRecDepth 100000 in
set_option maxHeartbeats 1000000 in
theorem step_lr (B : Nat) (w : World) (ρ : Nat -> Nat) (L D C : Nat) (s : ByteArray) (p m1 p1 m2 p2 m r : Nat) (q : Pst) (V : Vs) (a : Addr) (N : Nat) (t : Tim) (x : Rep) (h : PS B w ρ L D C s p q V) (hs : qAb s) (hE : Eof w a) (hle : qA5 s m r) (hn : NextAt s r) (hB : 0 < B)
 (htc : q.tc = some t) (h1 : p < m1) (hp1 : qB7 s p m1) (hx1 : s.extract p m1 = mk ((itoa x.ivl))) (hs1 : qCl s m1 p1) (h2 : p1 < m2) (hp2 : qB7 s p1 m2) (hx2 : s.extract p1 m2 = mk ((itoa x.dur))) (hs2 : qCl s m2 p2) (ho : OffsAt s m p2 x.offs)
 (hiv : I64 x.ivl) (hdu : I64 x.dur) (hof : ∀ o ∈ x.offs, I64 o) (hN : Small N q) (hN2 : N <= 1000000000) (hol : x.offs.length <= 1000000000) :
 Calls prog 245 #[.pointer (some ⟨L, 0, none⟩)] w (qAr V.pro B w L D C s r (q.app (.lr x)) 232) := by
 have hsz := hle.size
 have hl0 := h.lne
 obtain ⟨g, hg⟩ : ∃ g, g = w.heap.size := ⟨_, rfl⟩
 have hgL : ¬ g = L := fun e => by have := h.lx.lt; omega
 have hgw : w.heap.size <= g := Nat.le_of_eq hg.symm
 obtain ⟨w0, hw0⟩ : ∃ w0, w0 = w.alloc (.cells #[.int .i64 0, .int .i64 0, .slice none 0 0] 178) := ⟨_, rfl⟩
 have hX0 : Lx w0 L (pD D) (pD C) s p := by rw [hw0]; exact Blk.alloc h.lx _
 have hF0 : Fr (fun k => k = L) w w0 := by rw [hw0]; (apply_rules [Fr.refl, Fr.drew, Fr.drewN, Fr.alloc, Fr.put])
 have hB0 : Blk w0 g [.int .i64 0, .int .i64 0, .slice none 0 0] 178 := by rw [hw0, hg]; exact Blk.made w _ 178
 have hD0 : Blk w0 D (qCg q V) 115 := by rw [hw0]; exact Blk.alloc h.dd _
 obtain ⟨rows, hT⟩ := h.kp.times (fun e => e) (fun e => e)
 obtain ⟨l1, l2, l3, l4⟩ := hT.last t htc
 have hkl := (List.getElem?_eq_some_iff.1 l1).1
 obtain ⟨T, c, hvT⟩ := Row.form1 hT.row (by omega)
 have hlen : rows.length = q.td.length + 1 := by rw [hT.len, htc]; rfl
 rw [hlen] at hvT
 have hq1 := hN.td
 have y0 : w0.cell? ⟨L, 0, none⟩ = some (.pointer (some ⟨D, 0, none⟩)) := hX0.cell 0 rfl
 have y1 : w0.cell? ⟨D, 14, none⟩ = some (.slice (some ⟨T, 0, none⟩) (q.td.length + 1) c) := by rw [<- hvT]; exact hD0.cell 14 rfl
 go_enter func245, ntmps245
 go_upto_region 3 with fail
 rw [<- hw0, <- hg]
 have HG := hid hg
 clear hw0 hg
 go_quiet (fail)
 obtain ⟨w1, hw1⟩ : ∃ w1, w1 = w0.drewN nq := ⟨_, rfl⟩
 have hX1 : Lx w1 L (pD D) (pD C) s p := by rw [hw1]; exact hX0.drewN _
 have hB1 : Blk w1 g [.int .i64 0, .int .i64 0, .slice none 0 0] 178 := by rw [hw1]; exact hB0.drewN _
 have hF1 : Fr (fun k => k = L) w w1 := by rw [hw1]; exact hF0.drewN _
 have hE1 : Eof w1 a := hE.fr hF1 (fun e => hl0 e.symm)
 rw [<- hw1]
 clear hw1 hX0 hF0 hB0 y0 y1 hD0
 have hU0 := fun w1 => qGz x.ivl w1 hiv.1 hiv.2
 obtain ⟨z0, hz0⟩ : ∃ z0, z0 = s.extract p m1 := ⟨_, rfl⟩
 rw [<- hx1, <- hz0] at hU0
 have HZ0 := hid hz0
 have HU0 := hid hU0
 clear hz0 hU0
 go_upto_region 7 with (go_at_call 173; (with_reducible refine (qAu L (pD D) (pD C) s p m1 p1 a _ hX1 hs hE1 hl0 (Nat.le_of_lt h1) hp1 hs1).mono ?_); rw [<- HZ0.out]; rintro e v0 ⟨rfl, hXa, hFa⟩; have hBa := hB1.fr hFa hgL)
 go_upto_region 10 with (go_at_call 251; (with_reducible refine (HU0.out _).mono ?_); rintro e u0 ⟨rfl, qa⟩; have hBb := hBa.nw qa; have ca := hBb.cell 0 rfl; have fa := hBb.fz 0)
 obtain ⟨w2, hw2⟩ : ∃ w2, w2 = u0.setCell ⟨g, 0, none⟩ (.int .i64 x.ivl) := ⟨_, rfl⟩
 have hX2 : Lx w2 L (pD D) (pD C) s p1 := by rw [hw2]; exact Blk.other (Blk.nw hXa qa) (fun e => hgL e.symm) _
 have hB2 : Blk w2 g [.int .i64 x.ivl, .int .i64 0, .slice none 0 0] 178 := by rw [hw2]; exact hBb.set 0 _
 have hF2 : Fr (fun k => k = L) w w2 := by rw [hw2]; exact ((hF1.trans (hFa.mono (fun k _ e => .inl e))).trans (qa.fr _)).setCell (.inr hgw) _
 have hE2 : Eof w2 a := hE.fr hF2 (fun e => hl0 e.symm)
 rw [<- hw2]
 clear hw2 hXa hFa hBa hBb ca fa qa hX1 hB1 hF1 hE1
 have hU1 := fun w1 => qGz x.dur w1 hdu.1 hdu.2
 obtain ⟨z1, hz1⟩ : ∃ z1, z1 = s.extract p1 m2 := ⟨_, rfl⟩
 rw [<- hx2, <- hz1] at hU1
 have HZ1 := hid hz1
 have HU1 := hid hU1
 clear hz1 hU1
 go_upto_region 13 with (go_at_call 173; (with_reducible refine (qAu L (pD D) (pD C) s p1 m2 p2 a _ hX2 hs hE2 hl0 (Nat.le_of_lt h2) hp2 hs2).mono ?_); rw [<- HZ1.out]; rintro e v1 ⟨rfl, hXa, hFa⟩; have hBa := hB2.fr hFa hgL)
 go_upto_region 16 with (go_at_call 251; (with_reducible refine (HU1.out _).mono ?_); rintro e u1 ⟨rfl, qa⟩; have hBb := hBa.nw qa; have ca := hBb.cell 1 rfl; have fa := hBb.fz 1)
 obtain ⟨w3, hw3⟩ : ∃ w3, w3 = u1.setCell ⟨g, 1, none⟩ (.int .i64 x.dur) := ⟨_, rfl⟩
 have hX3 : Lx w3 L (pD D) (pD C) s p2 := by rw [hw3]; exact Blk.other (Blk.nw hXa qa) (fun e => hgL e.symm) _
 have hB3 : Blk w3 g [.int .i64 x.ivl, .int .i64 x.dur, .slice none 0 0] 178 := by rw [hw3]; exact hBb.set 1 _
 have hF3 : Fr (fun k => k = L) w w3 := by rw [hw3]; exact ((hF2.trans (hFa.mono (fun k _ e => .inl e))).trans (qa.fr _)).setCell (.inr hgw) _
 have hE3 : Eof w3 a := hE.fr hF3 (fun e => hl0 e.symm)
 rw [<- hw3]
 clear hw3 hXa hFa hBa hBb ca fa qa hX2 hB2 hF2 hE2
 clear HZ0 HU0 HZ1 HU1
 go_loopg [] x.offs.length (fun n wr => ∃ done rest p' ov, n = rest.length /\ done ++ rest = x.offs /\ Lx wr L (pD D) (pD C) s p' /\ Blk wr g [.int .i64 x.ivl, .int .i64 x.dur, ov] 178 /\ Row wr (g + 1) 2 1 ov (done.map qP8) /\ OffsAt s m p' rest /\ Fr (fun k => k = L) w wr)
 case atStart => exact ⟨[], x.offs, p2, .slice none 0 0, rfl, rfl, hX3, hB3, Row.nil _ _ _ _, ho, hF3⟩
 obtain ⟨done, rest, p', ov, hn', hd, hX4, hB4, hR4, hoa, hF4⟩ := hrel
 have HN := hid hn'
 clear hn'
 have hE4 : Eof wr a := hE.fr hF4 (fun e => hl0 e.symm)
 have hdl : (done.map qP8).length <= 1000000000 := by
  have : done.length <= x.offs.length := by rw [<- hd]; simp
  simp; omega
 clear hX3 hB3 hE3
 cases hoa with
 | nil =>
  have hP0 : qB7 s m m := fun k h1 h2 => by omega
  obtain ⟨Ao, co, rfl, _⟩ := hR4.form
  rw [List.length_map] at hR4 hB4
  have hx0 : s.extract m m = ⟨#[]⟩ := by rw [qDj]; exact congrArg mk (by simp)
  go_upto_region 27 with (first | (go_at_call 173; (with_reducible refine (qAu L (pD D) (pD C) s m m m a _ hX4 hs hE4 hl0 (Nat.le_refl _) hP0 hle.stops).mono ?_); rw [hx0]; rintro e w5 ⟨rfl, hX5, hF5⟩; have hE5 : Eof w5 a := hE4.fr hF5 (fun e => hl0 e.symm)) | (go_at_call 145; (with_reducible refine (qCe L _ _ s m r a _ hX5 hs hE5 hl0 hsz.1 hsz.2 hle.nl hn).mono ?_); rintro e w6 ⟨rfl, hX6, hF6⟩))
  have hF6' : Fr (fun k => k = L) w w6 := (hF4.trans (hF5.mono (fun k _ e => .inl e))).trans (hF6.mono (fun k _ e => .inl e))
  have hLo : ∀ k, Value.ownBlock (.slice Ao done.length co) = some k -> ¬ k = L := fun k hk e => by have := (hR4.base k hk).1; have := h.lx.lt; omega
  have hR6 := (hR4.fr hF5 (fun k hk e => hLo k hk e)).fr hF6 (fun k hk e => hLo k hk e)
  have hB6 := (hB4.fr hF5 hgL).fr hF6 hgL
  rw [List.append_nil] at hd
  subst hd
  clear hX4 hB4 hR4 hE4 hX5 hE5 hF4 hF5 hF6 hF3
  have h6 := h.lexN hF6' hX6
  obtain ⟨rows6, hT6⟩ := h6.kp.times (fun e => e) (fun e => e)
  obtain ⟨k1, k2, k3, k4⟩ := hT6.last t htc
  obtain ⟨⟨rr, hrr, hrl, hrg⟩, hrown⟩ := k4
  have hgT : V.times.ownBlock = some T := by rw [hvT]; rfl
  have hneT : ∀ k, V.times.ownBlock = some k -> ¬ some k = V.reps.ownBlock := fun k hk e => by
   have a1 := hT6.own k hk
   have a2 := hrown k e.symm
   omega
  have yT : w6.cell? ⟨T, q.td.length * 3 + 2, none⟩ = some V.reps := hT6.row.cell (k := q.td.length) (j := 2) hgT k1 rfl
  have g0 := hB6.cell 0 rfl
  have g1 := hB6.cell 1 rfl
  have g2 := hB6.cell 2 rfl
  have nG := hB6.lt
  have nT := (hT6.row.base T hgT).2
  have hrs : rr.length <= 1000000000 := by have := hN.reps t htc; omega
  have hBw : B <= w6.heap.size := by have := h6.BD; have := h6.dd.lt; omega
  have hz1 : ([.int .i64 x.ivl, .int .i64 x.dur, .slice Ao x.offs.length co] : List Value).length = 3 /\ ∀ u ∈ ([.int .i64 x.ivl, .int .i64 x.dur, .slice Ao x.offs.length co] : List Value), u.oneCell' = true := by
   refine ⟨rfl, fun u hu => ?_⟩
   simp only [List.mem_cons, List.not_mem_nil, or_false] at hu
   rcases hu with rfl | rfl | rfl <;> rfl
  have hx : qAq (fun W => qDc.rel W x [.int .i64 x.ivl, .int .i64 x.dur, .slice Ao x.offs.length co]) w6 (fun k => ext ρ w.heap.size (fun _ => 0) k = 0) := by
   intro W hW
   have hRW : Row W (g + 1) 2 1 (.slice Ao x.offs.length co) (x.offs.map qP8) := hR6.move (fun k hk => by
    have hb := hR6.base k hk
    exact hW k (qCm (by omega)) hb.2)
   exact ⟨_, rfl, ⟨by show -9223372036854775808 <= x.ivl; have := hiv.1; omega, by show x.ivl <= 9223372036854775807; have := hiv.2; omega⟩, ⟨by show -9223372036854775808 <= x.dur; have := hdu.1; omega, by show x.dur <= 9223372036854775807; have := hdu.2; omega⟩,
    Row.slFlat (enc := fun n => [Value.int .i64 n]) (hl := fun _ => rfl) (h1 := fun _ u hu => by rw [List.mem_singleton.1 hu]; rfl) hRW (by omega) (fun o ho => ⟨by show -9223372036854775808 <= o; have := (hof o ho).1; omega, by show o <= 9223372036854775807; have := (hof o ho).2; omega⟩)⟩
  go_region_law ((refine qA3 rfl ?_; (with_reducible refine qAn B (.tmp 104) (.tmp 106) 175 178 3 (.agg #[.int .i64 0, .int .i64 0, .slice none 0 0]) 40 ?_ underlying175 inf178 ?_ ?_ V.reps rr [.int .i64 x.ivl, .int .i64 x.dur, .slice Ao x.offs.length co] ?_ w6.heap.size ?_ hz1 ?_ ?_ ?_ ?_ ?_ ?_); (focus rfl); (focus rfl); (focus decide); (focus rfl); (focus rfl); (focus (exact fun j u hu => Blk.cell (Blk.made w6 [.int .i64 x.ivl, .int .i64 x.dur, .slice Ao x.offs.length co] 178).drew j hu)); (focus (exact (hrr.alloc _).nw (Nw.refl _).drew)); (focus (simp; omega)); (focus omega); (focus omega); intro v7 w7 hr7 hf7 ho7); obtain ⟨Av, cv, rfl, _⟩ := hr7.form; have hT7 := ((hT6.row.alloc _).nw (Nw.refl _).drew).fr hf7 (fun k hk e => hneT k hk e); have k7 : w7.cell? ⟨T, q.td.length * 3 + 2, none⟩ = some V.reps := hT7.cell (k := q.td.length) (j := 2) hgT k1 rfl; have z7 : w7.frozen? ⟨T, q.td.length * 3 + 2, none⟩ = false := hT7.fz hgT)
  all_goals
   go_wp2
   go_ret2
   obtain ⟨⟨ρ7, h7⟩, hf7'⟩ := h6.addRep hT6 htc (((Nw.refl _).alloc _).drew) hx hrr hrl hrg hr7 hf7 ho7 hgT rfl
   refine qAr.mk (by simpa [hrl] using h7) (by simpa [hrl] using (hF6'.mono (fun k _ e => e ▸ h.BL)).trans (hf7'.mono (fun k _ e => .inl e))) ?_
   rfl
 | cons h1' hp' ho' hs' hr' =>
  rename_i m4 p4 o rest
  have hom : I64 o := hof o (by rw [<- hd]; simp)
  have hU := fun w1 => qGz o w1 hom.1 hom.2
  obtain ⟨z, hz⟩ : ∃ z, z = s.extract p' m4 := ⟨_, rfl⟩
  have hze : z.toList.isEmpty = false := by
   have hlt := hs'.lt
   rw [hz, qE5]
   simp only [ByteArray.size_extract, decide_eq_false_iff_not]
   omega
  rw [<- ho', <- hz] at hU
  have HZ := hid hz
  have HU := hid hU
  clear hz hU
  go_upto_region 20 with (go_at_call 173; (with_reducible refine (qAu L (pD D) (pD C) s p' m4 p4 a _ hX4 hs hE4 hl0 (Nat.le_of_lt h1') hp' hs').mono ?_); rw [<- HZ.out]; rintro e w5 ⟨rfl, hX5, hF5⟩; have hB5 := hB4.fr hF5 hgL; have hR5 := hR4.fr hF5 (fun k hk e => by have := (hR4.base k hk).1; have := h.lx.lt; omega))
  go_upto_region 23 with (go_at_call 251; (with_reducible refine (HU.out _).mono ?_); rintro e w6 ⟨rfl, q6⟩; have hB6 := hB5.nw q6; have hR6 := hR5.nw q6; have hX6 := Blk.nw hX5 q6)
  have c6 := hB6.cell 2 rfl
  have hgw6 := hB6.lt
  have hneg : ¬ some g = ov.ownBlock := fun e => by have := (hR6.base g e.symm).1; omega
  have hone : (qP8 o).length = 1 /\ ∀ u ∈ qP8 o, u.oneCell' = true := by
   refine ⟨rfl, fun u hu => ?_⟩
   rw [List.mem_singleton.1 hu]; rfl
  have hl1 : (done.map qP8 ++ [qP8 o]).length = done.length + 1 := by simp
  go_wp2_with ((refine qAc rfl fun K hK => ?_; (with_reducible refine qAn (g + 1) (.tmp 88) (.tmp 90) 75 2 1 (.int .i64 0) 8 ?_ underlying75 inf2 ?_ ?_ ov (done.map qP8) (qP8 o) ?_ w6.heap.size ?_ hone ?_ ?_ ?_ ?_ ?_ ?_); (focus rfl); (focus rfl); (focus decide); (focus rfl); (focus rfl); (focus (exact fun j u hu => Blk.cell (Blk.made w6 (qP8 o) 2) j hu)); (focus (exact hR6.alloc _)); (focus (simp; omega)); (focus omega); (focus omega); intro v7 w7 hr7 hf7 ho7; refine hK _ _ ?_); obtain ⟨Av, cv, rfl, _⟩ := hr7.form; rw [hl1] at hr7 ho7; have hB7 := (Blk.alloc hB6 _).fr hf7 hneg; have c7 := hB7.cell 2 rfl; have f7 := hB7.fz 2)
  have hF7 : Fr (fun k => k = L) w (w7.setCell ⟨g, 2, none⟩ (.slice Av (done.length + 1) cv)) :=
   (((((hF4.trans (hF5.mono (fun k _ e => .inl e))).trans (q6.fr _)).alloc _).trans (hf7.mono (fun k _ e => .inr (by have := (hR6.base k e.symm).1; omega))))).setCell (.inr hgw) _
  have hX7 : Lx (w7.setCell ⟨g, 2, none⟩ (.slice Av (done.length + 1) cv)) L (pD D) (pD C) s p4 :=
   Blk.other ((Blk.alloc hX6 _).fr hf7 (fun e => by have := (hR6.base L e.symm).1; have := h.lx.lt; omega)) (fun e => hgL e.symm) _
  have hR8 : Row (w7.setCell ⟨g, 2, none⟩ (.slice Av (done.length + 1) cv)) (g + 1) 2 1 (.slice Av (done.length + 1) cv) ((done ++ [o]).map qP8) := by
   rw [List.map_append]
   exact hr7.fr (Fr.self (p := ⟨g, 2, none⟩) _) (fun k hk e => by have := (hr7.base k hk).1; have : k = g := e; omega)
  go_roundg rest.length
  case measure => rw [HN.out]; simp
  case rel => exact ⟨done ++ [o], rest, p4, .slice Av (done.length + 1) cv, rfl, by rw [<- hd]; simp, hX7, hB7.set 2 _, hR8, hr', hF7⟩
end Go.Proofs.YtcepdjlknalmnaaGreatDoor

/- Laws of this claim. -/
import Derived.Test.YtcepdjlknalmnaaGreatDoorMedD
set_option linter.unusedSimpArgs false
set_option linter.unusedVariables false
namespace Go.Proofs.YtcepdjlknalmnaaGreatDoor
open List (length_append length_cons)
open Lib (decDigits itoa)
open Go.RowKit
theorem qHv {s : ByteArray} {p : Nat} {e : List UInt8} {x : ByteArray} (hx : line x = true) (h : Seg s p (bs x ++ e)) (he : qI2 e) : Whole s p (p + (bs x).length) /\ qA5 s (p + (bs x).length) (p + (bs x ++ e).length) /\ s.extract p (p + (bs x).length) = x := by
 obtain ⟨g1, g2⟩ := Seg.app.1 h
 have := g2.lend he
 rw [length_append, <- Nat.add_assoc]
 exact ⟨g1.whole (fun c hc => (qQb hx c hc).1), this, by rw [g1.extract, qFa]⟩
theorem qMv {l : List UInt8} (h : ∀ c ∈ l, c.toNat < 128) : ∀ k (h : k < (mk l).size), ((mk l)[k]'h).toNat < 128 := fun k hk => by
 have hk' : k < l.length := by rw [<- qAy]; exact hk
 exact h _ (List.getElem_mem hk')
def StOk (l : Ln) : Prop := ∀ (B : Nat) (hB : 0 < B) (w : World) (ρ : Nat -> Nat) (L D C : Nat) (s : ByteArray) (p n N : Nat) (q : Pst) (V : Vs) (a : Addr) (e : List UInt8) (h : PS B w ρ L D C s p q V) (hs : qAb s) (hE : Eof w a) (hI : Inv n q) (hfrom : n ∈ l.from_) (hN : Small N q) (hN2 : N <= 1000000) (hok : qJ0 l) (he : qI2 e) (hseg : Seg s p (l.body ++ e)) (hn : NextAt s (p + (l.body ++ e).length)),
 Calls Tryz.prog (ufn l) #[.pointer (some ⟨L, 0, none⟩)] w (qAr V.pro B w L D C s (p + (l.body ++ e).length) (q.app l) (sfn l.dst))
def Four : Ln -> Prop
 | .lv => True
 | .lo _ => True
 | .ls _ => True
 | .lt _ => True
 | _ => False
set_option maxHeartbeats 1000000 in
theorem qIl (l : Ln) (hf : Four l) : StOk l := by
 intro B hB w ρ L D C s p n N q V a e h hs hE hI hfrom hN hN2 hok he hseg hn
 have hN3 : N <= 1000000000 := by omega
 cases l
 case lv =>
  have e0 : (decDigits (Int.toNat (0 : Int))) = [48] := by
   show decDigits 0 = _
   rw [Lib.decDigits_one (by decide)]; rfl
  have h1 : Seg s p ((decDigits (Int.toNat (0 : Int))) ++ e) := by rw [e0]; exact hseg
  obtain ⟨g1, g2⟩ := Seg.app.1 h1
  obtain ⟨F, hF, hv⟩ := g1.digits (by decide) (by decide)
  have hl := g2.lend he
  have hr : p + ((Ln.lv).body ++ e).length = p + ((decDigits (Int.toNat (0 : Int)))).length + e.length := by
   rw [show (Ln.lv).body = (decDigits (Int.toNat (0 : Int))) from e0.symm, length_append]; omega
  rw [hr] at hn ⊢
  exact step_lv B w ρ L D C s p _ _ q V a F h hs hE (Nat.le_add_right _ _) hF hv hl hn
 case lo o =>
  obtain ⟨k1, k2, k3, k4, k5, k6⟩ := hok
  have hb : (Ln.lo o).body ++ e = bs o.user ++ (32 :: ((decDigits (Int.toNat o.id)) ++ (32 :: ((decDigits (Int.toNat o.ver)) ++ (32 :: (bs o.net ++ (32 :: (bs o.addr ++ (32 :: (bs o.adr ++ e)))))))))) := by simp [Ln.body]
  rw [hb] at hseg hn ⊢
  obtain ⟨g1, g2⟩ := Seg.app.1 hseg
  obtain ⟨g3, g4⟩ := Seg.app.1 (Seg.cons.1 g2).2
  obtain ⟨g5, g6⟩ := Seg.app.1 (Seg.cons.1 g4).2
  obtain ⟨g7, g8⟩ := Seg.app.1 (Seg.cons.1 g6).2
  obtain ⟨g9, g10⟩ := Seg.app.1 (Seg.cons.1 g8).2
  obtain ⟨g11, g12⟩ := Seg.app.1 (Seg.cons.1 g10).2
  obtain ⟨F1, hF1, hv1⟩ := g3.digits k2.1 k2.2
  obtain ⟨F2, hF2, hv2⟩ := g5.digits k3.1 k3.2
  have hl := g12.lend he
  have w1 := qHa k1
  have w4 := in_in k4
  have w5 := ip_ge k5
  have w6 := qHa k6
  have hr : p + (bs o.user ++ (32 :: ((decDigits (Int.toNat o.id)) ++ (32 :: ((decDigits (Int.toNat o.ver)) ++ (32 :: (bs o.net ++ (32 :: (bs o.addr ++ (32 :: (bs o.adr ++ e))))))))))).length = p + (bs o.user).length + 1 + ((decDigits (Int.toNat o.id))).length + 1 + ((decDigits (Int.toNat o.ver))).length + 1 + (bs o.net).length + 1 + (bs o.addr).length + 1 + (bs o.adr).length + e.length := by
   simp only [length_append, length_cons]; omega
  rw [hr] at hn ⊢
  have := step_lo B hB w ρ L D C s p _ _ _ _ _ _ _ _ _ _ _ _ F1 F2 q V a h hs hE (Nat.le_add_right _ _) (g1.plain w1.1) (g2.stopW qHt.1 qHt.2) (Nat.le_add_right _ _) hF1 (g4.stopW qHt.1 qHt.2) (Nat.le_add_right _ _) hF2 (g6.stopW w4.1 w4.2) (Nat.le_add_right _ _) (g7.plain w4.1) (g8.stopW w5.1 w5.2)
   (Nat.lt_add_of_pos_right (qDv w5.2)) (g9.plain w5.1) (g10.stopW w6.1 w6.2) (Nat.lt_add_of_pos_right (qDv w6.2)) (g11.plain w6.1) hl hn (by rw [g7.extract, qFa]; exact k4) (by rw [g9.extract, qFa]; exact k5)
  rw [g1.extract, g7.extract, g9.extract, g11.extract, hv1, hv2, qFa, qFa, qFa, qFa] at this
  exact this
 case ls x =>
  obtain ⟨a1, a2, a3⟩ := qHv hok hseg he
  have := step_ls B w ρ L D C s p _ _ q V h hs (Nat.le_add_right _ _) a1 a2
  rw [a3] at this
  exact this
 case lt t =>
  obtain ⟨k1, k2⟩ := hok
  have hb : (Ln.lt t).body ++ e = (decDigits (Int.toNat t.start)) ++ (32 :: ((decDigits (Int.toNat t.stop)) ++ e)) := by simp [Ln.body]
  rw [hb] at hseg hn ⊢
  obtain ⟨g1, g2⟩ := Seg.app.1 hseg
  obtain ⟨g3, g4⟩ := Seg.app.1 (Seg.cons.1 g2).2
  obtain ⟨F1, hF1, hv1⟩ := g1.digits k1.1 k1.2
  obtain ⟨F2, hF2, hv2⟩ := g3.digits k2.1 k2.2
  have hl := g4.lend he
  have hr : p + ((decDigits (Int.toNat t.start)) ++ (32 :: ((decDigits (Int.toNat t.stop)) ++ e))).length = p + ((decDigits (Int.toNat t.start))).length + 1 + ((decDigits (Int.toNat t.stop))).length + e.length := by
   simp only [length_append, length_cons]; omega
  rw [hr] at hn ⊢
  have := step_lt B hB w ρ L D C s p _ _ _ _ F1 F2 q V a N h hs hE hN hN3 (Nat.le_add_right _ _) hF1 (g2.stopW qHt.1 qHt.2) (Nat.le_add_right _ _) hF2 hl hn t.reps
  rw [hv1, hv2] at this
  exact this
 all_goals exact hf.elim
set_option maxHeartbeats 1000000 in
theorem step_ln (l : Ln) : StOk l := by
 intro B hB w ρ L D C s p n N q V a e h hs hE hI hfrom hN hN2 hok he hseg hn
 have hN3 : N <= 1000000000 := by omega
 cases l
 case lv => exact qIl .lv trivial B hB w ρ L D C s p n N q V a e h hs hE hI hfrom hN hN2 hok he hseg hn
 case lo o => exact qIl (.lo o) trivial B hB w ρ L D C s p n N q V a e h hs hE hI hfrom hN hN2 hok he hseg hn
 case ls x => exact qIl (.ls x) trivial B hB w ρ L D C s p n N q V a e h hs hE hI hfrom hN hN2 hok he hseg hn
 case lt t => exact qIl (.lt t) trivial B hB w ρ L D C s p n N q V a e h hs hE hI hfrom hN hN2 hok he hseg hn
 case li x =>
  obtain ⟨a1, a2, a3⟩ := qHv hok hseg he
  have := step_li B w ρ L D C s p _ _ q V h hs (Nat.le_add_right _ _) a1 a2
  rw [a3] at this
  exact this
 case lu x =>
  obtain ⟨a1, a2, a3⟩ := qHv hok hseg he
  have := step_lu B w ρ L D C s p _ _ q V h hs (Nat.le_add_right _ _) a1 a2
  rw [a3] at this
  exact this
 case le x =>
  obtain ⟨a1, a2, a3⟩ := qHv hok hseg he
  have := step_le B w ρ L D C s p _ _ q V h hs (Nat.le_add_right _ _) a1 a2
  rw [a3] at this
  exact this
 case lp x =>
  obtain ⟨a1, a2, a3⟩ := qHv hok hseg he
  have := step_lp B w ρ L D C s p _ _ q V h hs (Nat.le_add_right _ _) a1 a2
  rw [a3] at this
  exact this
 case lk x =>
  obtain ⟨a1, a2, a3⟩ := qHv hok hseg he
  have := step_lk B w ρ L D C s p _ _ q V h hs (Nat.le_add_right _ _) a1 a2
  rw [a3] at this
  exact this
 case lc c =>
  obtain ⟨m1, p1, m2, p2, m, A⟩ := con_at hok hseg he
  exact step_lc B w ρ L D C s p m1 p1 m2 p2 m _ q V a c h hs hE A.h1 A.hp1 A.hs1 A.h2 A.hp2 A.hs2 A.h3 A.hp3 A.hle hn A.hi1 A.hi2 A.hx
 case lb b =>
  obtain ⟨k1, k2, k3⟩ := hok
  have h1 : Seg s p (qF8 b ++ e) := hseg
  obtain ⟨g1, g2⟩ := Seg.app.1 h1
  have hl := g2.lend he
  have hr : p + ((Ln.lb b).body ++ e).length = p + (qF8 b).length + e.length := by
   rw [show (Ln.lb b).body = qF8 b from rfl, length_append]; omega
  rw [hr] at hn ⊢
  exact step_lb B w ρ L D C s p _ _ q V N b h hs hN hN3 (Nat.le_add_right _ _) (g1.whole (bw_ge k1)) hl k1 (bw_wf k1 k2 k3).1 g1.extract (bw_wf k1 k2 k3).2
 case lr r =>
  obtain ⟨t, ht⟩ := hI.t9 (by simpa [Ln.from_] using hfrom)
  have k := hok
  unfold qJ0 qJq at k
  simp only [Bool.and_eq_true, List.all_eq_true, decide_eq_true_eq] at k
  obtain ⟨⟨k1, k2, k3, k4, k5, k6⟩, k7⟩ := k
  obtain ⟨ivl, dur, offs⟩ := r
  match offs, k5, k6, k7 with
  | o :: os, k5, k6, k7 =>
   have hb : (Ln.lr ⟨ivl, dur, o :: os⟩).body ++ e = (itoa ivl) ++ (32 :: ((itoa dur) ++ (32 :: ((itoa o) ++ (qBt os ++ e))))) := by simp [Ln.body, qBt]
   rw [hb] at hseg hn ⊢
   obtain ⟨g1, g2⟩ := Seg.app.1 hseg
   obtain ⟨g3, g4⟩ := Seg.app.1 (Seg.cons.1 g2).2
   have g5 := (Seg.cons.1 g4).2
   have g6 := offs_at he os o _ g5
   rw [<- List.append_assoc] at g5
   have hl := (Seg.app.1 g5).2.lend he
   have hr : p + ((itoa ivl) ++ (32 :: ((itoa dur) ++ (32 :: ((itoa o) ++ (qBt os ++ e)))))).length = p + ((itoa ivl)).length + 1 + ((itoa dur)).length + 1 + ((itoa o) ++ qBt os).length + e.length := by
    simp only [length_append, length_cons]; omega
   rw [hr] at hn ⊢
   have hof : ∀ o' ∈ o :: os, I64 o' := fun o' ho' => by
    have := k7 o' ho'
    unfold offB at this
    simp at this
    exact ⟨by omega, by omega⟩
   have k1' : 0 < ivl := k1
   have k2' : ivl < 1099511627776 := k2
   have k3' : 0 <= dur := k3
   have k4' : dur < 1099511627776 := k4
   exact step_lr B w ρ L D C s p _ _ _ _ _ _ q V a N t ⟨ivl, dur, o :: os⟩ h hs hE hl hn hB ht (Nat.lt_add_of_pos_right (qDv qCk.2)) (g1.plain qCk.1) g1.extract (g2.stopW qCk.1 qCk.2) (Nat.lt_add_of_pos_right (qDv qCk.2)) (g3.plain qCk.1) g3.extract (g4.stopW qCk.1 qCk.2) g6
    ⟨by show -9223372036854775808 < ivl; omega, by show ivl < 9223372036854775808; omega⟩ ⟨by show -9223372036854775808 < dur; omega, by show dur < 9223372036854775808; omega⟩ hof hN hN3 (by have k6' : (o :: os).length <= 5 := k6; show (o :: os).length <= 1000000000; omega)
 case lz zs =>
  obtain ⟨k1, k2, k3⟩ := hok
  match zs, k1 with
  | z :: zs, _ =>
   have hb : (Ln.lz (z :: zs)).body ++ e = (decDigits (Int.toNat z.time)) ++ (32 :: ((itoa z.off) ++ (qD8 zs ++ e))) := by
    show qAk [32] ((qBq (z :: zs)).map mk) ++ e = _
    rw [zon_body]; simp
   rw [hb] at hseg hn ⊢
   have kz : ∀ y ∈ z :: zs, (y.time < 1125899906842624 /\ -1099511627776 < y.off /\ y.off < 1099511627776) /\ 0 <= y.time := fun y hy => by
    have := k3 y hy
    unfold zonB at this
    simp only [Bool.and_eq_true, decide_eq_true_eq] at this
    exact this
   have g := zones_at he zs z p (fun y hy => ⟨(kz y hy).2, by have := kz y hy; omega⟩) hseg
   have hl : qA5 s (p + ((decDigits (Int.toNat z.time)) ++ (32 :: ((itoa z.off) ++ qD8 zs))).length) (p + ((decDigits (Int.toNat z.time)) ++ (32 :: ((itoa z.off) ++ qD8 zs))).length + e.length) := by
    have : Seg s p (((decDigits (Int.toNat z.time)) ++ (32 :: ((itoa z.off) ++ qD8 zs))) ++ e) := by simpa using hseg
    exact (Seg.app.1 this).2.lend he
   have hr : p + ((decDigits (Int.toNat z.time)) ++ (32 :: ((itoa z.off) ++ (qD8 zs ++ e)))).length = p + ((decDigits (Int.toNat z.time)) ++ (32 :: ((itoa z.off) ++ qD8 zs))).length + e.length := by
    simp only [length_append, length_cons]; omega
   rw [hr] at hn ⊢
   have hq := hN.zones
   exact step_lz B w ρ L D C s p _ _ q V a (z :: zs) h hs hE hl hn hB g (fun y hy => ⟨⟨(kz y hy).2, by show y.time <= 18446744073709551615; have := kz y hy; omega⟩, by have := kz y hy; omega, by have := kz y hy; omega⟩) (by omega) (Nat.le_add_right _ _)
 case la t =>
  have h1 : Seg s p (qC1 t ++ e) := hseg
  obtain ⟨g1, g2⟩ := Seg.app.1 h1
  have hl := g2.lend he
  have hr : p + ((Ln.la t).body ++ e).length = p + (qC1 t).length + e.length := by
   rw [show (Ln.la t).body = qC1 t from rfl, length_append]; omega
  rw [hr] at hn ⊢
  have k := att_of hok
  exact step_la B w ρ L D C s p _ _ q V N t h hs hN hN3 (Nat.le_add_right _ _) (g1.whole (fun c hc => (k.2 c hc).1)) hl (by rw [g1.extract]; exact qMv (fun c hc => (k.2 c hc).2)) (by rw [g1.extract]; exact k.1)
 case ma t =>
  have h1 : Seg s p (qC1 t ++ e) := hseg
  obtain ⟨g1, g2⟩ := Seg.app.1 h1
  have hl := g2.lend he
  have hr : p + ((Ln.ma t).body ++ e).length = p + (qC1 t).length + e.length := by
   rw [show (Ln.ma t).body = qC1 t from rfl, length_append]; omega
  rw [hr] at hn ⊢
  have k := att_of hok
  exact step_ma B w ρ L D C s p _ _ q V N t h hs hN hN3 (Nat.le_add_right _ _) (g1.whole (fun c hc => (k.2 c hc).1)) hl (by rw [g1.extract]; exact qMv (fun c hc => (k.2 c hc).2)) (by rw [g1.extract]; exact k.1)
 case mi x =>
  obtain ⟨y, hy⟩ := hI.m12 hfrom
  obtain ⟨a1, a2, a3⟩ := qHv hok hseg he
  have := step_mi B w ρ L D C s p _ _ q V N y h hs hN hN3 hy (Nat.le_add_right _ _) a1 a2
  rw [a3] at this
  exact this
 case mkey x =>
  obtain ⟨y, hy⟩ := hI.m12 hfrom
  obtain ⟨a1, a2, a3⟩ := qHv hok hseg he
  have := qQi B w ρ L D C s p _ _ q V N y h hs hN hN3 hy (Nat.le_add_right _ _) a1 a2
  rw [a3] at this
  exact this
 case mc c =>
  obtain ⟨y, hy⟩ := hI.m12 hfrom
  obtain ⟨m1, p1, m2, p2, m, A⟩ := con_at hok hseg he
  exact step_mc B w ρ L D C s p m1 p1 m2 p2 m _ q V a N y c h hs hE hN hN3 hy A.h1 A.hp1 A.hs1 A.h2 A.hp2 A.hs2 A.h3 A.hp3 A.hle hn A.hi1 A.hi2 A.hx
 case mb b =>
  obtain ⟨y, hy⟩ := hI.m12 hfrom
  obtain ⟨k1, k2, k3⟩ := hok
  have h1 : Seg s p (qF8 b ++ e) := hseg
  obtain ⟨g1, g2⟩ := Seg.app.1 h1
  have hl := g2.lend he
  have hr : p + ((Ln.mb b).body ++ e).length = p + (qF8 b).length + e.length := by
   rw [show (Ln.mb b).body = qF8 b from rfl, length_append]; omega
  rw [hr] at hn ⊢
  exact step_mb B w ρ L D C s p _ _ q V N y b h hs hN hN3 hy (Nat.le_add_right _ _) (g1.whole (bw_ge k1)) hl k1 (bw_wf k1 k2 k3).1 g1.extract (bw_wf k1 k2 k3).2
 case lm m =>
  obtain ⟨k1, k2, k3⟩ := hok
  have k := k1
  unfold qIw qCf at k
  simp only [Bool.and_eq_true, List.all_eq_true, decide_eq_true_eq] at k
  obtain ⟨⟨c1, c2, c3, c4, c5, c6, c7, c8⟩, c9, c10, c11, _⟩ := k
  obtain ⟨f, fs, hf⟩ : ∃ f fs, m.fmts = f :: fs := by
   cases hm : m.fmts with
   | nil => rw [hm] at c7; simp at c7
   | cons f fs => exact ⟨f, fs, rfl⟩
  have hb : (Ln.lm m).body ++ e = bs m.name ++ (32 :: (qCo m ++ (32 :: (qAk [47] m.protos ++ (32 :: (qAk [32] (f :: fs) ++ e)))))) := by simp [Ln.body, hf]
  rw [hb] at hseg hn ⊢
  have w1 : (∀ c ∈ bs m.name, 33 <= c.toNat) /\ bs m.name ≠ [] := qQd c1 (by decide)
  have w2 : (∀ c ∈ qCo m, 33 <= c.toNat) /\ qCo m ≠ [] := by
   unfold qCo
   refine ⟨fun c hc => ?_, fun e0 => qJe _ (List.append_eq_nil_iff.1 e0).1⟩
   rcases List.mem_append.1 hc with hc | hc
   · have := qC7 _ c hc; omega
   exact qQe _ c hc
  have w3 := qQg c5 c10
  have w4 : ∀ y ∈ f :: fs, (∀ c ∈ bs y, 33 <= c.toNat) /\ bs y ≠ [] := fun y hy => qHa (c11 y (by rw [hf]; exact hy))
  have w5 : qAk [32] (f :: fs) ++ e = bs f ++ (fs.flatMap (fun y => [32] ++ bs y) ++ e) := by simp [qAk]
  obtain ⟨g1, g2⟩ := Seg.app.1 hseg
  obtain ⟨g3, g4⟩ := Seg.app.1 (Seg.cons.1 g2).2
  obtain ⟨g5, g6⟩ := Seg.app.1 (Seg.cons.1 g4).2
  have g7 := (Seg.cons.1 g6).2
  have g8 := fmts_at he fs f _ w4 g7
  have hl := (Seg.app.1 g7).2.lend he
  rw [w5] at g6
  have hr : p + (bs m.name ++ (32 :: (qCo m ++ (32 :: (qAk [47] m.protos ++ (32 :: (qAk [32] (f :: fs) ++ e))))))).length = p + (bs m.name).length + 1 + (qCo m).length + 1 + (qAk [47] m.protos).length + 1 + (qAk [32] (f :: fs)).length + e.length := by
   simp only [length_append, length_cons]; omega
  rw [hr] at hn ⊢
  exact step_lm B w ρ L D C s p _ _ _ _ _ _ _ _ q V a N m h hs hE hB hI.m0 hN hN3 k1 k2 k3 (Nat.le_add_right _ _) (g1.plain w1.1) (by rw [g1.extract, qFa]) (g2.stopW w2.1 w2.2) (Nat.le_add_right _ _) (g3.plain w2.1) g3.extract (g4.stopW w3.1 w3.2) (Nat.le_add_right _ _) (g5.plain w3.1) g5.extract (g6.stopW (w4 f List.mem_cons_self).1 (w4 f List.mem_cons_self).2) (by rw [hf]; exact g8) hl hn
end Go.Proofs.YtcepdjlknalmnaaGreatDoor

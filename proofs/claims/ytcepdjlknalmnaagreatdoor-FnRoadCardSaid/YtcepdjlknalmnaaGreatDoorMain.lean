/- Laws of this claim. -/
import Derived.Test.YtcepdjlknalmnaaGreatDoorSteps
import Derived.Test.YtcepdjlknalmnaaGreatDoorFin
set_option linter.unusedSimpArgs false
set_option linter.unusedVariables false
namespace Go.Proofs.YtcepdjlknalmnaaGreatDoor
open Tryz
open Lib (hid)
open Go.RowKit
def TlOk (tl : List UInt8) : Prop := tl = [] ∨ ∃ (kd : UInt8) (t : List UInt8), tl = kd :: 61 :: t /\ 65 <= kd.toNat /\ kd.toNat <= 90
theorem key_ge (l : Ln) : 97 <= l.key.toNat := by
 cases l <;> (simp only [Ln.key]; decide)
theorem qJh (e : List UInt8) (l : Ln) (ls : List Ln) (tl : List UInt8) : qAm e ((l :: ls).map Ln.text) ++ tl = l.key :: 61 :: ((l.body ++ e) ++ (qAm e (ls.map Ln.text) ++ tl)) := by
 simp [qAm, Ln.text]
theorem qK7 (e tl : List UInt8) : qAm e (([] : List Ln).map Ln.text) ++ tl = tl := by simp [qAm]
theorem seg_ln {s : ByteArray} {p : Nat} {e tl : List UInt8} {l : Ln} {ls : List Ln} (h : Seg s p (qAm e ((l :: ls).map Ln.text) ++ tl)) :
 qAe s p (l.key.toNat : Int) /\ qAe s (p + 1) 61 /\ Seg s (p + 2) (l.body ++ e) /\ Seg s (p + 2 + (l.body ++ e).length) (qAm e (ls.map Ln.text) ++ tl) := by
 rw [qJh] at h
 have h1 := (Seg.cons.1 h).2
 have h2 := (Seg.cons.1 h1).2
 exact ⟨h.head, h1.head, (Seg.app.1 h2).1, (Seg.app.1 h2).2⟩
theorem next_at {s : ByteArray} {r : Nat} {e tl : List UInt8} {ls : List Ln} (h : Seg s r (qAm e (ls.map Ln.text) ++ tl)) (ht : TlOk tl) (hsz : r + (qAm e (ls.map Ln.text) ++ tl).length = s.size) : NextAt s r := fun hr => by
 cases ls with
 | nil =>
  rw [qK7] at h hsz
  rcases ht with rfl | ⟨kd, t, rfl, h1, h2⟩
  · simp at hsz; omega
  exact ⟨_, h.head, qP9 (by omega)⟩
 | cons l ls => exact ⟨_, (seg_ln h).1, qP9 (by have := key_ge l; omega)⟩
theorem qQk (e : List UInt8) (l : Ln) (ls : List Ln) (tl : List UInt8) : (qAm e ((l :: ls).map Ln.text) ++ tl).length = 2 + (l.body ++ e).length + (qAm e (ls.map Ln.text) ++ tl).length := by
 rw [qJh]
 simp only [List.length_cons, List.length_append]
 omega
end Go.Proofs.YtcepdjlknalmnaaGreatDoor
/- The reader, from a text's lines to the session. -/
namespace Go.Proofs.YtcepdjlknalmnaaGreatDoor
open Tryz
open Lib (hid)
open Go.RowKit
attribute [local go_sem ↓] Go.wp_at_zero Go.wp_at_succ
def pn : Value := .pointer none
def sn : Value := .slice none 0 0
def V0 (P : World -> Prop) : Vs := ⟨pn, pn, pn, pn, pn, sn, sn, sn, pn, sn, sn, sn, ⟨sn, 0, pn, sn, sn, pn, pn, sn, pn⟩, P⟩
def qQl : List Value := qCg Pst.zero (V0 (fun _ => True))
theorem ps_start {P : World -> Prop} {w : World} {D L C : Nat} {s : ByteArray} (hD : Blk w D qQl 115) (hL : Lx w L (pD D) (pD C) s 0) (hC : Blk w C [sn, sn] 155) (h0 : 0 < D) (h1 : D < L) (h2 : L < C) (hP : qAq P w (fun k => ¬ (k = L ∨ k = D ∨ k = C))) :
 PS D w (fun k => if k = L then 1 else if k = D then 2 else if k = C then 3 else 0) L D C s 0 Pst.zero (V0 P) := by
 refine ⟨by simp, ?_, ?_, ?_, hL, hD, hC, ?_, ?_⟩
 · show (if D = L then 1 else if D = D then 2 else if D = C then 3 else 0) = 2
   rw [if_neg (by omega), if_pos rfl]
 · show (if C = L then 1 else if C = D then 2 else if C = C then 3 else 0) = 3
   rw [if_neg (by omega), if_neg (by omega), if_pos rfl]
 · show (if 0 = L then 1 else if 0 = D then 2 else if 0 = C then 3 else 0) = 0
   rw [if_neg (by omega), if_neg (by omega), if_neg (by omega)]
 · refine ⟨fun k hk => ?_, fun W hW => ⟨.inl ⟨rfl, rfl⟩, hP W (fun k hk hlt => hW k (show (if k = L then 1 else if k = D then 2 else if k = C then 3 else 0) = 0 by rw [if_neg (fun e => hk (.inl e)), if_neg (fun e => hk (.inr (.inl e))), if_neg (fun e => hk (.inr (.inr e)))]) hlt)⟩, fun _ _ => .inl ⟨rfl, rfl⟩, fun _ _ => .inl ⟨rfl, rfl⟩, fun _ _ => .inl ⟨rfl, rfl⟩, fun _ _ => .inl ⟨rfl, rfl⟩, fun _ _ => .inl ⟨rfl, rfl⟩, fun _ => qIc.nil _ _ _ _ _ _, fun _ => qIc.nil _ _ _ _ _ _, fun _ => qIc.nil _ _ _ _ _ _, fun _ => qIc.nil _ _ _ _ _ _, fun _ _ => ⟨[], ?_⟩, fun _ _ _ => ⟨[], ?_⟩⟩
   · have hk' : ¬ (if k = L then 1 else if k = D then 2 else if k = C then 3 else 0) = 0 := hk
     split at hk'
     · omega
     split at hk'
     · omega
     split at hk'
     · omega
     exact absurd rfl hk'
   · exact ⟨Row.nil _ _ _ _, (fun k hk => by cases hk), rfl, fun i x r hx => by simp [Pst.zero] at hx, fun _ => rfl, (fun t ht => by cases ht)⟩
   exact ⟨Row.nil _ _ _ _, (fun k hk => by cases hk), rfl, fun i x r hx => by simp [Pst.zero] at hx, fun _ => rfl, (fun t ht => by cases ht)⟩
 refine ⟨?_, ⟨by decide, by decide⟩, ⟨by decide, by decide⟩, ?_, ?_, ?_, ?_⟩ <;> (show (strE).size <= 1152921504606846976) <;> decide
theorem qQm (C : Nat) (w : World) (hC : Blk w C [sn, sn] 155) : Calls prog 63 #[.pointer (some ⟨C, 0, none⟩)] w fun e w' => e = .returned (.tuple #[]) /\ Blk w' C [sn, sn] 155 /\ Fr (fun k => k = C) w w' := by
 have c0 := hC.cell 0 rfl
 have c1 := hC.cell 1 rfl
 have f0 := hC.fz 0
 have f1 := hC.fz 1
 unfold sn at c0 c1
 go_enter func63, ntmps63
 go_wp2
 exact ⟨rfl, _, results_none rfl _ _ _, rfl, (hC.set 0 sn).set 1 sn, by (apply_rules [Fr.refl, Fr.drew, Fr.drewN, Fr.alloc, Fr.put])⟩
structure AtLn (P : World -> Prop) (B : Nat) (w0 w : World) (L D C : Nat) (s : ByteArray) (e tl : List UInt8) (qf : Pst) (m : Nat) (ls : List Ln) (p N : Nat) (q : Pst) (ρ : Nat -> Nat) (V : Vs) : Prop where
 ps : PS B w ρ L D C s p q V
 m1 : 1 <= m
 m16 : m <= 16
 path : path m ls
 ok : ∀ l ∈ ls, qJ0 l /\ StOk l
 inv : Inv m q
 small : Small N q
 most : N + wts ls <= 1000
 fin : q.apps ls = qf
 fr : Fr (fun k => B <= k) w0 w
 pro : V.pro = P
theorem AtLn.lex {P : World -> Prop} {B : Nat} {w0 w w' : World} {L D C : Nat} {s : ByteArray} {e tl : List UInt8} {qf : Pst} {m : Nat} {ls : List Ln} {p r N : Nat} {q : Pst} {ρ : Nat -> Nat} {V : Vs} (h : AtLn P B w0 w L D C s e tl qf m ls p N q ρ V) (hf : Fr (fun k => k = L) w w') (hx : Lx w' L (pD D) (pD C) s r) : AtLn P B w0 w' L D C s e tl qf m ls r N q ρ V :=
 ⟨h.ps.lex hf hx, h.m1, h.m16, h.path, h.ok, h.inv, h.small, h.most, h.fin, h.fr.trans (hf.mono (fun k _ e => .inl (e ▸ h.ps.BL))), h.pro⟩
theorem PSc.nw {B : Nat} {w w' : World} {ρ : Nat -> Nat} {L D C : Nat} {s : ByteArray} {p : Nat} {q : Pst} {V : Vs} {cs : List Value} (h : PSc B w ρ L D C s p q V cs) (hn : Nw w w') : PSc B w' (ext ρ w.heap.size (fun _ => 0)) L D C s p q V cs := by
 have hk := h.kp.keep (R' := fun _ => False) (ρ' := ext ρ w.heap.size (fun _ => 0)) (hn.fr (fun _ => False)) (fun _ _ e => e) (fun _ e => e) (fun e => e) (fun k hk _ => qAz hk) (fun k hk => by
  rcases Nat.lt_or_ge k w.heap.size with hlt | hge
  · rw [qAz hlt] at hk; exact h.kp.zero k hk
  rw [qCm hge] at hk; exact absurd rfl hk)
 exact ⟨by rw [qAz h.lx.lt]; exact h.rL, by rw [qAz h.dd.lt]; exact h.rD, by rw [qAz h.cc.lt]; exact h.rC, by rw [qAz h.size0]; exact h.rz, h.lx.nw hn, h.dd.nw hn, h.cc.nw hn, hk, h.wfo⟩
theorem dst_le (l : Ln) : 1 <= l.dst /\ l.dst <= 16 := by cases l <;> (simp only [Ln.dst]; decide)
theorem Small.pop {N : Nat} {q : Pst} (h : Small N q) : Small (N + 1) q.pop := by
 refine ⟨by have := h.bws; show q.bws.length <= _; omega, by have := h.td; show q.td.length <= _; omega, fun t ht => by have := h.reps t ht; omega, by have := h.zones; show q.zones.length <= _; omega, by have := h.atts; show q.atts.length <= _; omega, ?_, (fun y hy => by cases hy), by show ([] : List Att).length <= _; simp⟩
 have := h.md
 cases hc : q.mc <;> simp [Pst.pop, hc] <;> omega
theorem qMw (f : Nat) (w : World) : (binOp .neq 156 (.func (.func f) #[] #[]) .nilFunc).run prog w = .ok (.bool true) w := by kernel_rfl
theorem qQn (w : World) : (binOp .neq 156 .nilFunc .nilFunc).run prog w = .ok (.bool false) w := by kernel_rfl
theorem neq_err (v : Value) (w : World) : (binOp .neq 118 (.iface 250 v) .nilIface).run prog w = .ok (.bool true) w := by kernel_rfl
set_option maxRecDepth 100000 in
set_option maxHeartbeats 2000000 in
theorem par_unm (P : World -> Prop) (w : World) (D : Nat) (s : ByteArray) (e tl : List UInt8) (ls : List Ln) (a : Addr) (hD : Blk w D qQl 115) (hP : qAq P w (fun k => ¬ k = D)) (hD0 : 0 < D) (hs : qAb s) (hE : Eof w a) (he : qI2 e) (htl : TlOk tl) (hseg : Seg s 0 (qAm e (ls.map Ln.text) ++ tl)) (hsz : (qAm e (ls.map Ln.text) ++ tl).length = s.size)
 (hp : path 1 ls) (hok : ∀ l ∈ ls, qJ0 l /\ StOk l) (hw : wts ls <= 1000) :
 Calls prog 48 #[.pointer (some ⟨D, 0, none⟩), .string s] w fun ed w' => (Fr (fun k => D <= k) w w' /\ P w') /\ ((tl = [] /\ ed = .returned .nilIface /\ qN5 w' D (Pst.zero.apps ls).fin) ∨ (tl ≠ [] /\ ∃ v, ed = .returned (.iface 250 v))) := by
 have nD := hD.lt
 obtain ⟨qf, hqf⟩ : ∃ qf, qf = Pst.zero.apps ls := ⟨_, rfl⟩
 rw [<- hqf]
 obtain ⟨L, hL⟩ : ∃ L, L = w.heap.size := ⟨_, rfl⟩
 obtain ⟨w0, hw0⟩ : ∃ w0, w0 = (w.alloc (.cells #[.pointer none, .pointer (some ⟨w.heap.size + 1, 0, none⟩), .string ⟨#[]⟩, .int .i64 0] 153)).alloc (.cells #[.slice none 0 0, .slice none 0 0] 155) := ⟨_, rfl⟩
 have hX0 : Blk w0 L [.pointer none, .pointer (some ⟨L + 1, 0, none⟩), .string ⟨#[]⟩, .int .i64 0] 153 := by rw [hw0, hL]; exact Blk.alloc (Blk.made w _ 153) _
 have hC0 : Blk w0 (L + 1) [sn, sn] 155 := by
  rw [hw0, hL]
  exact Blk.made' (by simp) _ 155
 have hF0 : Nw w w0 := by rw [hw0]; exact ((Nw.refl w).alloc _).alloc _
 go_enter func48, ntmps48
 go_upto_region 3 with fail
 rw [<- hw0, <- hL]
 have HL := hid hL
 have hDL : D < L := by omega
 clear hw0 hL
 have hLC : ¬ L = L + 1 := by omega
 have y1 := hX0.cell 1 rfl
 go_upto_region 4 with (go_at_call 63; (with_reducible refine (qQm (L + 1) w0 hC0).mono ?_); rintro e w1 ⟨rfl, hC1, hF1⟩; have hX1 := hX0.fr hF1 hLC; have x0 := hX1.cell 0 rfl; have x2 := hX1.cell 2 rfl; have k0 := hX1.fz 0; have k2 := hX1.fz 2)
 go_upto_region 6 with fail
 obtain ⟨w2, hw2⟩ : ∃ w2, w2 = (w1.setCell ⟨L, 0, none⟩ (.pointer (some ⟨D, 0, none⟩))).setCell ⟨L, 2, none⟩ (.string s) := ⟨_, rfl⟩
 have hF2 : Fr (fun k => D < k) w w2 := by
  rw [hw2]
  exact (((hF0.fr _).trans (hF1.mono (fun k _ e => .inl (by omega)))).setCell (.inl hDL) _).setCell (.inl hDL) _
 have hX2 : Lx w2 L (pD D) (pD (L + 1)) s 0 := by rw [hw2]; exact (hX1.set 0 _).set 2 _
 have hC2 : Blk w2 (L + 1) [sn, sn] 155 := by rw [hw2]; exact Blk.other (Blk.other hC1 (fun e => hLC e.symm) _) (fun e => hLC e.symm) _
 have hD2 : Blk w2 D qQl 115 := hD.fr hF2 (Nat.lt_irrefl _)
 have hN2 : Nw w w2 := by
  have hLw : w.heap.size <= L := Nat.le_of_eq HL.out.symm
  rw [hw2]
  exact ((hF0.frIn hF1 (fun k e => by rw [e]; omega)).setCell (p := ⟨L, 0, none⟩) hLw _).setCell (p := ⟨L, 2, none⟩) hLw _
 have hLw : w.heap.size <= L := Nat.le_of_eq HL.out.symm
 have hPw2 : qAq P w2 (fun k => ¬ (k = L ∨ k = D ∨ k = L + 1)) := (hP.nw hN2).mono (fun k _ e => by
  have h1 := e.1
  have h2 := e.2
  omega)
 have hP2 := ps_start hD2 hX2 hC2 hD0 hDL (Nat.lt_succ_self L) hPw2
 have hl0 : ¬ L = 0 := by omega
 rw [<- hw2]
 clear hw2 hX1 hC1 hF1 x0 x2 k0 k2 hX0 hC0 hF0 y1 hD2 hX2 hC2 hD
 have hF2' : Fr (fun k => D <= k) w w2 := hF2.mono (fun k _ e => Nat.le_of_lt e)
 have hA0 : AtLn P D w w2 L D (L + 1) s e tl qf 1 ls 0 0 Pst.zero _ (V0 P) := ⟨hP2, Nat.le_refl _, by decide, hp, hok, Inv.zero, Small.zero, by omega, hqf.symm, hF2', rfl⟩
 clear hqf hP2 hF2 hF2' hp hok hw
 go_wp2
 go_loopg [6] (2 * ls.length + 1) (fun n st wr => (∃ ls' m p N q ρ V, n = 2 * ls'.length + 1 /\ st = fv (sfn m) /\ AtLn P D w wr L D (L + 1) s e tl qf m ls' p N q ρ V /\ Seg s p (qAm e (ls'.map Ln.text) ++ tl) /\ p + (qAm e (ls'.map Ln.text) ++ tl).length = s.size) ∨
  (∃ l ls' m p N q ρ V, n = 2 * ls'.length + 2 /\ st = fv (ufn l) /\ AtLn P D w wr L D (L + 1) s e tl qf m (l :: ls') p N q ρ V /\ Seg s p (l.body ++ e) /\ Seg s (p + (l.body ++ e).length) (qAm e (ls'.map Ln.text) ++ tl) /\ p + (l.body ++ e).length + (qAm e (ls'.map Ln.text) ++ tl).length = s.size) ∨
  (∃ m p N q ρ V, n = 0 /\ st = .nilFunc /\ tl = [] /\ AtLn P D w wr L D (L + 1) s e tl qf m [] p N q ρ V))
 case atStart => exact .inl ⟨ls, 1, 0, 0, Pst.zero, _, V0 P, rfl, rfl, hA0, hseg, by rw [Nat.zero_add]; exact hsz⟩
 rcases hrel with ⟨ls', m, p, N, q, ρ, V, hn, rfl, hA, hsg, hsz'⟩ | ⟨l, ls', m, p, N, q, ρ, V, hn, rfl, hA, hb, hrest, hsz'⟩ | ⟨m, p, N, q, ρ, V, hn, rfl, htl0, hA⟩
 · have HN := hid hn
   clear hn
   have hEr : Eof wr a := hE.fr hA.fr (fun e => by omega)
   obtain ⟨f, hf⟩ : ∃ f, f = sfn m := ⟨_, rfl⟩
   have hen : ∀ (args : Array Value) (w : World), (callFunc f args).run prog w = .ok (.enter f args) w := by rw [hf]; exact qNt m hA.m1 hA.m16
   have hq := qMw f
   cases ls' with
   | nil =>
    rw [qK7] at hsg hsz'
    rcases htl with htl | ⟨kd, t, htl, k1, k2⟩
    · have hps : p = s.size := by rw [htl] at hsz'; simpa using hsz'
      have hX := hA.ps.lx
      rw [hps] at hX
      have hc := st_end m hA.m1 hA.m16 L (pD D) (pD (L + 1)) s a wr hX hs hEr hl0
      rw [<- hf] at hc ⊢
      have HC := hid hc
      clear hc hf
      go_wp2
      refine HC.out.mono ?_
      rintro ed w5 ⟨rfl, hX5, hF5⟩
      go_wp2
      go_roundg 0
      case measure => rw [HN.out]; simp
      case rel => exact .inr (.inr ⟨m, s.size, N, q, ρ, V, rfl, rfl, htl, hA.lex hF5 hX5⟩)
    rw [htl] at hsg
    have hc := st_no m hA.m1 hA.m16 L (pD D) (pD (L + 1)) s p kd.toNat a wr hA.ps.lx hs hsg.head (qP9 (by omega)) (Seg.cons.1 hsg).2.head hEr hl0 (by omega)
    rw [<- hf] at hc ⊢
    have HC := hid hc
    have hBL := hA.ps.BL
    clear hc hf
    go_wp2
    refine HC.out.mono ?_
    rintro ed w5 ⟨⟨v, rfl⟩, hF5⟩
    have hq3 := neq_err v
    go_wp2
    go_ret
    have hpw := (hA.ps.kp.info.fr hF5 (fun k hk hok e => by rw [e, hA.ps.rL] at hok; cases hok)).now.2
    rw [hA.pro] at hpw
    exact ⟨⟨hA.fr.trans (hF5.mono (fun k _ e => .inl (e ▸ hBL))), hpw⟩, .inr ⟨by rw [htl]; simp, v, rfl⟩⟩
   | cons l ls' =>
    obtain ⟨b1, b2, b3, b4⟩ := seg_ln hsg
    have hc := st_known m l hA.path.1 L (pD D) (pD (L + 1)) s p a wr hA.ps.lx hs b1 b2 hEr hl0
    rw [<- hf] at hc ⊢
    have HC := hid hc
    clear hc hf
    go_wp2
    refine HC.out.mono ?_
    rintro ed w5 ⟨rfl, hX5, hF5⟩
    go_wp2
    go_roundg (2 * ls'.length + 2)
    case measure => rw [HN.out]; simp; omega
    case rel => exact .inr (.inl ⟨l, ls', m, p + 2, N, q, ρ, V, rfl, rfl, hA.lex hF5 hX5, b3, b4, by have := qQk e l ls' tl; omega⟩)
 · have HN := hid hn
   clear hn
   have hEr : Eof wr a := hE.fr hA.fr (fun e => by omega)
   obtain ⟨f, hf⟩ : ∃ f, f = ufn l := ⟨_, rfl⟩
   have hen : ∀ (args : Array Value) (w : World), (callFunc f args).run prog w = .ok (.enter f args) w := by rw [hf]; exact qNs l
   have hq := qMw f
   have hmost := hA.most
   have hc := (hA.ok l List.mem_cons_self).2 D hD0 wr ρ L D (L + 1) s p m N q V a e hA.ps hs hEr hA.inv hA.path.1 hA.small (by omega) (hA.ok l List.mem_cons_self).1 he hb (next_at hrest htl hsz')
   rw [<- hf] at hc ⊢
   have HC := hid hc
   clear hc hf
   go_wp2
   refine HC.out.mono ?_
   rintro ed w5 ⟨rfl, ⟨ρ', V', hP5, hV5⟩, hF5⟩
   go_wp2
   go_roundg (2 * ls'.length + 1)
   case measure => rw [HN.out]; omega
   rw [qEe] at hmost
   exact .inl ⟨ls', l.dst, _, N + wt l, q.app l, ρ', V', rfl, rfl, ⟨hP5, (dst_le l).1, (dst_le l).2, hA.path.2, fun x hx => hA.ok x (List.mem_cons_of_mem _ hx), hA.inv.step hA.path.1, hA.small.app l, by omega, hA.fin, hA.fr.trans (hF5.mono (fun k _ e => .inl e)), hV5.trans hA.pro⟩, hrest, hsz'⟩
 have hq := qQn
 clear hn
 have hqf : q = qf := hA.fin
 subst hqf
 have hsm := hA.small
 have hmost := hA.most
 have hN2 : N <= 1000 := by omega
 have hP := hA.ps
 have hl : (q.atts.map qA2).length <= 1000000000 := by have := hsm.atts; simp; omega
 have hrow : Row wr D 199 2 V.sa (q.atts.map qA2) := (qAo.toFlat (hP.kp.sa (fun e => e)).1).1
 have hne : ¬ some (L + 1) = V.sa.ownBlock := fun e => by have := (hP.kp.sa (fun e => e)).2 _ e.symm; rw [hP.rC] at this; cases this
 have x1 := hP.lx.cell 1 rfl
 unfold pD at x1
 have hDC : ¬ D = L + 1 := by omega
 go_upto_region 13 with (go_at_call 65; (with_reducible refine (qJy D (L + 1) V.sa V.ma (q.atts.map qA2) wr hP.cc hrow hl hne).mono ?_); rintro ed w5 ⟨v1, v2, rfl, hC5, hR5, ho5, h15, hF5⟩; obtain ⟨A1, c1, rfl, _⟩ := h15.form; rw [List.length_map] at h15; have hD5 := hP.dd.fr hF5 hDC; have k17 := hD5.cell 17 rfl; have f17 := hD5.fz 17)
 obtain ⟨hPc, hFt, hF6⟩ := hP.attsDone (by have := hsm.atts; omega) hC5 hR5 ho5 h15 hF5
 obtain ⟨w6, hw6⟩ : ∃ w6, w6 = w5.setCell ⟨D, 17, none⟩ (.slice A1 q.atts.length c1) := ⟨_, rfl⟩
 rw [<- hw6] at hPc hFt hF6 ⊢
 clear hw6 hC5 hR5 ho5 h15 hD5 k17 f17 hrow
 have hpc := fun w0 (n0 : Nw w6 w0) => qHu D w0 _ L D (L + 1) s p { q with atts := [] } { V with sa := v2 } ((qCg q V).set 17 (.slice A1 q.atts.length c1)) (hPc.nw n0) rfl hA.inv.m0 (by have := hsm.ma; show q.ma.length <= _; omega) (by have := hsm.md; show q.md.length <= _; omega) (fun y hy => by have := hsm.mbws y hy; omega)
 have HPC := hid hpc
 clear hpc
 have m0 := hPc.lx.cell 0 rfl
 have m0' := hPc.lx.cell 1 rfl
 unfold pD at m0 m0'
 go_region_held3 (fun w' => w'.cell? ⟨L, 0, none⟩ = some (.pointer (some ⟨D, 0, none⟩)) /\ w'.cell? ⟨L, 1, none⟩ = some (.pointer (some ⟨L + 1, 0, none⟩))) (first | exact ⟨m1, m1'⟩ | go_keep) (first | (go_at_call 66; (with_reducible refine (HPC.out _ ?_).mono ?_); (focus exact (Nw.refl w6).drew); rintro ed w7 ⟨rfl, ⟨ρ7, v7, hPop⟩, hF7⟩; have m1 := hPop.lx.cell 0 rfl; have m1' := hPop.lx.cell 1 rfl; unfold pD at m1 m1'))
 go_wp2
 go_ret
 have hF7' := Fr.undrew hF7
 have hBw : ∀ k, k < w6.heap.size -> (ext (ext ρ wr.heap.size (fun _ => 0)) w6.heap.size (fun _ => 0) k = 3 ∨ ext (ext ρ wr.heap.size (fun _ => 0)) w6.heap.size (fun _ => 0) k = 11) -> ¬ ext ρ wr.heap.size (fun _ => 0) k = 0 := fun k hk e => by
  rw [qAz hk] at e
  omega
 have hpw := hPop.kp.info.now.2
 have hpe : V.pro = P := hA.pro
 refine ⟨⟨hA.fr.trans ((hF6.mono (fun k _ e => ?_)).trans (hF7'.mono (fun k hk e => ?_))), by rw [<- hpe]; exact hpw⟩, .inl ⟨htl0, rfl, ?_⟩⟩
 · rcases e with rfl | rfl
   · exact .inl (by omega)
   exact .inl (Nat.le_refl _)
 · exact .inl (.inl (hPc.kp.zero k (hBw k hk e)))
 have ha := (hFt.fr hF7' (fun k hk hok e => hBw k hk e hok)).now
 have hd := hPop.done (q' := q) (V' := V) (v1 := .slice A1 q.atts.length c1) rfl rfl ha (Small.pop (N := N) ⟨hsm.bws, hsm.td, hsm.reps, hsm.zones, Nat.zero_le _, hsm.md, hsm.mbws, hsm.ma⟩) (by omega)
 have e1 : ({ q with atts := [] } : Pst).pop.fin = ({ q with atts := [] } : Pst).fin := Pst.pop_fin _
 rw [e1] at hd
 exact hd
end Go.Proofs.YtcepdjlknalmnaaGreatDoor

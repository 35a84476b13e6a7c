/- Laws of this claim. -/
import Derived.Test.YtcepdjlknalmnaaGreatDoorLsc
set_option linter.unusedSimpArgs false
set_option linter.unusedVariables false
namespace Go.Proofs.YtcepdjlknalmnaaGreatDoor
open Tryz
open List (length_append length_nil)
open Lib (hid)
open Go.RowKit
theorem Ty.At_rows {α : Type} {T : Ty α} {w : World} {ys : List α} {b o : Nat} (ha : T.At w ys b o) : ∃ news : List (List Value), news.length = ys.length /\ ∀ (k : Nat) y r, ys[k]? = some y -> news[k]? = some r -> T.rel w y r /\ ∀ j u, r[j]? = some u -> w.cell? ⟨b, o + k * T.sz + j, none⟩ = some u := by
 have hex : ∀ (n : Nat), n <= ys.length -> ∃ news : List (List Value), news.length = n /\ ∀ (k : Nat) y r, ys[k]? = some y -> news[k]? = some r -> T.rel w y r /\ ∀ j u, r[j]? = some u -> w.cell? ⟨b, o + k * T.sz + j, none⟩ = some u := by
  intro n
  induction n with
  | zero => exact fun _ => ⟨[], rfl, fun k y r _ hr => by simp at hr⟩
  | succ n ih =>
   intro hn
   obtain ⟨news, hl, hr⟩ := ih (by omega)
   obtain ⟨cs, h1, h2⟩ := ha n _ (List.getElem?_eq_getElem (show n < ys.length by omega))
   refine ⟨news ++ [cs], by simp [hl], fun k y r hy hk => ?_⟩
   rcases Nat.lt_or_ge k n with hlt | hge
   · rw [List.getElem?_append_left (by omega)] at hk
     exact hr k y r hy hk
   have hkn : k = n := by
    have := (List.getElem?_eq_some_iff.1 hk).1
    simp at this; omega
   subst hkn
   rw [List.getElem?_append_right (by omega)] at hk
   simp only [hl, Nat.sub_self, List.getElem?_cons_zero, Option.some.injEq] at hk
   rw [List.getElem?_eq_getElem (show k < ys.length by omega)] at hy
   injection hy with hy
   rw [<- hk, <- hy]
   exact ⟨h1, h2⟩
 exact hex _ (Nat.le_refl _)
theorem qHw {α : Type} {T : Ty α} {ops : Array Oper} {o : Oper} {a : Act} {Q : Exit -> Act -> World -> Prop} {K : Act -> World -> Prop} {w0 W : World} (s x : Operand) (t e : Nat) (z : Value) (bytes : Nat)
 (ho : o.op = .call { callee := .builtin .append, args := #[s, x], argTypes := #[t, t] }) (ht : prog.underlying t = some (.slice e)) (hinfo : (prog.info? e).map (fun i => (i.zero, i.size, i.bytes)) = some (some z, T.sz, bytes)) (hz : z.cells.size = T.sz) (hsz : 0 < T.sz)
 (v u : Value) (xs ys : List α) (hs : a.eval s = v) (hx : a.eval x = u) (hu : T.Sl w0 ys u)
 (HO : qAo T W w0.heap.size e v xs (fun k => k < w0.heap.size)) (hn : Nw w0 W) (hl : (xs.length + ys.length) * bytes <= 140737488355328) (hl2 : xs.length + ys.length <= 140737488355328)
 (h : ∀ v1 w1, qAo T w1 w0.heap.size e v1 (xs ++ ys) (fun k => k < w0.heap.size) -> Nw w0 w1 -> K (a.put o.dst v1) w1) :
 o.wp prog a W K Q := by
 obtain ⟨rows, hr, hrl, hf⟩ := HO
 have hst : ∀ {v1 : Value} {w1 : World} {x : α} {r : List Value}, Fr (fun k => some k = v.ownBlock) W w1 -> qAq (fun W => T.rel W x r) W (fun k => k < w0.heap.size /\ ¬ some k = v.ownBlock) -> v1.ownBlock = v.ownBlock ∨ (∃ b, v1.ownBlock = some b /\ W.heap.size <= b) -> qAq (fun W => T.rel W x r) w1 (fun k => k < w0.heap.size /\ ¬ some k = v1.ownBlock) := fun hfr hh ho =>
  (hh.fr hfr (fun k _ hk => hk.2)).mono (fun k _ hk => ⟨hk.1.1, by
   rcases ho with ho | ⟨b, ho, hb⟩
   · rw [ho]; exact hk.1.2
   rw [ho]; intro e; injection e with e; omega⟩)
 rcases hu.2 with ⟨rfl, A, c, rfl, hA⟩ | ⟨hp, b, o', c, rfl, hc, ha⟩
 · refine qCh (T := T) w0.heap.size s x t e z bytes ho ht hinfo hz hsz v _ rows [] hs hx (Ty.Sl_loc hn.block hu) hr hn.size (by rw [hrl]; exact hl) (by rw [hrl]; exact hl2) ?_
   intro v1 w1 news h1 h2 h3 h4 h5
   obtain rfl : news = [] := List.eq_nil_of_length_eq_zero h1
   rw [List.append_nil] at h3
   refine h v1 w1 ?_ (hn.frIn h4 (fun i hi => (hr.base i hi.symm).1))
   rw [List.append_nil]
   exact ⟨rows, h3, hrl, fun i x r hx hr' => hst h4 (hf i x r hx hr') h5⟩
 obtain ⟨news, hnl, hnr⟩ := Ty.At_rows ha
 refine qGg w0.heap.size s x t e T.sz z bytes ho ht hinfo hz hsz v rows news b o' c hs (by rw [hx, hnl]) (fun r hr' => ?_) (fun k j r u hk hj => ?_) hr hn.size (by rw [hrl, hnl]; exact hl) (by rw [hrl, hnl]; exact hl2) ?_
 · obtain ⟨k, hk, rfl⟩ := List.getElem_of_mem hr'
   have := (hnr k _ _ (List.getElem?_eq_getElem (show k < ys.length by omega)) (List.getElem?_eq_getElem hk)).1
   exact ⟨T.len this, T.one this⟩
 · have hk' := (List.getElem?_eq_some_iff.1 hk).1
   exact hn.cell ((hnr k _ r (List.getElem?_eq_getElem (show k < ys.length by omega)) hk).2 j u hj)
 intro v1 w1 h3 h4 h5
 refine h v1 w1 ⟨rows ++ news, h3, by simp [hrl, hnl], fun i x r hx hr' => ?_⟩ (hn.frIn h4 (fun i hi => (hr.base i hi.symm).1))
 rcases Nat.lt_or_ge i xs.length with hi | hi
 · rw [List.getElem?_append_left hi] at hx
   rw [List.getElem?_append_left (by omega)] at hr'
   exact hst h4 (hf i x r hx hr') h5
 rw [List.getElem?_append_right hi] at hx
 rw [List.getElem?_append_right (by omega), hrl] at hr'
 refine hst h4 (((Ty.foot_in (hnr _ x r hx hr').1).nw hn).mono (fun k _ hk => ⟨hk.2, fun e => ?_⟩)) h5
 have := (hr.base k e.symm).1
 omega
def qG4 (x : Ssn) : List Con := x.conn ++ x.media.flatMap (fun m => m.conn)
def qNy (a : Adr) : Bool := decide (a.ttl.length + a.rng.length = 0)
def qLe (c : Con) : Bool := c.adrs.all qNy
def bare (x : Ssn) : Bool := (qG4 x).all qLe
set_option maxRecDepth 100000 in
set_option maxHeartbeats 1000000 in
theorem qQz (x : Ssn) (v0 v1 v2 v3 v4 v5 v6 v7 v8 v9 v10 : Value) (w : World) (m : SsnAt w x v0 v1 v2 v3 v4 v5 v6 v7 v8 v9 v10) (hl : (qG4 x).length <= 1099511627776) :
 Calls prog 15 #[qBv x v0 v1 v2 v3 v4 v5 v6 v7 v8 v9 v10] w fun e w' => e = .returned (.bool (bare x)) /\ Nw w w' := by
 unfold qBv
 obtain ⟨A0, n0, rfl⟩ := Ty.Sl_form m.info
 obtain ⟨A1, n1, rfl⟩ := Ty.Sl_form m.uri
 obtain ⟨A2, n2, rfl⟩ := Ty.Sl_form m.email
 obtain ⟨A3, n3, rfl⟩ := Ty.Sl_form m.phone
 obtain ⟨A4, n4, rfl⟩ := Ty.Sl_form m.conn
 obtain ⟨A5, n5, rfl⟩ := Ty.Sl_form m.bws
 obtain ⟨A6, n6, rfl⟩ := Ty.Sl_form m.times
 obtain ⟨A7, n7, rfl⟩ := Ty.Sl_form m.zones
 obtain ⟨A8, n8, rfl⟩ := Ty.Sl_form m.key
 obtain ⟨A9, n9, rfl⟩ := Ty.Sl_form m.atts
 obtain ⟨A10, n10, rfl⟩ := Ty.Sl_form m.media
 obtain ⟨wA, hwA⟩ : ∃ wA, wA = w.alloc (.cells #[.int .i64 x.ver, .string x.org.user, .int .u64 x.org.id, .int .u64 x.org.ver, .string x.org.net, .string x.org.addr, .string x.org.adr, .string x.name, .slice A0 x.info.length n0, .slice A1 x.uri.length n1, .slice A2 x.email.length n2, .slice A3 x.phone.length n3, .slice A4 x.conn.length n4, .slice A5 x.bws.length n5, .slice A6 x.times.length n6, .slice A7 x.zones.length n7, .slice A8 x.key.length n8, .slice A9 x.atts.length n9, .slice A10 x.media.length n10] 43) := ⟨_, rfl⟩
 have qA : Nw w wA := by rw [hwA]; exact (Nw.refl w).alloc _
 have g12 : wA.cell? ⟨w.heap.size, 12, none⟩ = some (.slice A4 x.conn.length n4) := by rw [hwA]; go_simp
 have g18 : wA.cell? ⟨w.heap.size, 18, none⟩ = some (.slice A10 x.media.length n10) := by rw [hwA]; go_simp
 have mc : qC0.Sl wA x.conn (.slice A4 x.conn.length n4) := Ty.Sl_loc qA.block m.conn
 have mm : qEj.Sl wA x.media (.slice A10 x.media.length n10) := Ty.Sl_loc qA.block m.media
 have hmd := m.media.1
 have LL := hid hl
 have hl0 : x.conn.length <= 1099511627776 := by unfold qG4 at hl; simp only [length_append] at hl; omega
 clear m hl
 go_enter func15, ntmps15
 go_upto_region 1 with fail
 have hsA : wA.heap.size = w.heap.size + 1 := by rw [hwA]; simp
 rw [<- hwA]
 clear hwA
 have R0 : qAo qC0 (wA.alloc (.cells #[] 124)) wA.heap.size 124 (.slice (some ⟨w.heap.size + 1, 0, none⟩) 0 0) [] (fun k => k < wA.heap.size) := ⟨[], by rw [<- hsA]; exact ⟨by simp, World.ownsRow_made wA #[] 0 (Nat.le_refl _) (by simp [maxLen]) (by simp)⟩, rfl, fun i x r hx => by simp at hx⟩
 have g12a := Nw.cell ((Nw.refl wA).alloc (.cells #[] 124)) g12
 have HSA := hid hsA
 have hne : ¬ w.heap.size = wA.heap.size := by omega
 go_upto_region 2 with ((refine qAc rfl fun K hK => ?_; (with_reducible refine qHw (ops := #[]) (.tmp 10) (.tmp 12) 36 124 (.agg #[.string ⟨#[]⟩, .string ⟨#[]⟩, .slice none 0 0]) 56 ?_ underlying36 qN8 ?_ ?_ (.slice (some ⟨w.heap.size + 1, 0, none⟩) 0 0) _ [] x.conn ?_ ?_ mc R0 ((Nw.refl _).alloc _) ?_ ?_ ?_); (focus rfl); (focus rfl); (focus decide); (focus rfl); (focus rfl); (focus ((try simp only [length_append, length_nil]); omega)); (focus ((try simp only [length_append, length_nil]); omega)); intro z1 w1 hr1 hn1; refine hK _ _ ?_))
 have g18b := Nw.cell hn1 g18
 rw [List.nil_append] at hr1
 clear R0 g12a g12 g18
 go_wp2
 go_loopw [3, 17] (fun z i wr => ∃ k : Nat, k <= x.media.length /\ i = .int .i64 k /\ qAo qC0 wr wA.heap.size 124 z (x.conn ++ (x.media.take k).flatMap (fun m => m.conn)) (fun k => k < wA.heap.size) /\ Nw wA wr) (fun z i _ => x.media.length - (intOf i).toNat)
 case atStart => exact ⟨0, Nat.zero_le _, rfl, by simpa using hr1, hn1⟩
 obtain ⟨k, hk, rfl, hrow, hnw⟩ := hrel
 by_cases hlt : k < x.media.length
 · obtain ⟨b, o, rfl, ha⟩ := Ty.Sl_at mm k hlt
   obtain ⟨cs, ⟨p0, p1, p2, p3, p4, p5, p6, p7, rfl, mt⟩, hx⟩ := ha k _ (List.getElem?_eq_getElem hlt)
   have c0 := hnw.cell (hx 0 _ rfl)
   have c1 := hnw.cell (hx 1 _ rfl)
   have c2 := hnw.cell (hx 2 _ rfl)
   have c3 := hnw.cell (hx 3 _ rfl)
   have c4 := hnw.cell (hx 4 _ rfl)
   have c5 := hnw.cell (hx 5 _ rfl)
   have c6 := hnw.cell (hx 6 _ rfl)
   have c7 := hnw.cell (hx 7 _ rfl)
   have c8 := hnw.cell (hx 8 _ rfl)
   have c9 := hnw.cell (hx 9 _ rfl)
   simp only [qEj, Nat.add_zero] at c0 c1 c2 c3 c4 c5 c6 c7 c8 c9
   obtain ⟨B0, r0, rfl⟩ := Ty.Sl_form mt.ports
   obtain ⟨B1, r1, rfl⟩ := Ty.Sl_form mt.protos
   obtain ⟨B2, r2, rfl⟩ := Ty.Sl_form mt.fmts
   obtain ⟨B3, r3, rfl⟩ := Ty.Sl_form mt.title
   obtain ⟨B4, r4, rfl⟩ := Ty.Sl_form mt.conn
   obtain ⟨B5, r5, rfl⟩ := Ty.Sl_form mt.bws
   obtain ⟨B6, r6, rfl⟩ := Ty.Sl_form mt.key
   obtain ⟨B7, r7, rfl⟩ := Ty.Sl_form mt.atts
   have HT : Hid ((x.media.take k).flatMap (fun m => m.conn) ++ x.media[k].conn = (x.media.take (k + 1)).flatMap (fun m => m.conn)) := hid (qDp (fun m : Med => m.conn) hlt)
   have hle : x.conn.length + ((x.media.take k).flatMap (fun m => m.conn)).length + x.media[k].conn.length <= 1099511627776 := by
    have h1 := LL.out
    unfold qG4 at h1
    rw [qG6 (fun m : Med => m.conn) hlt] at h1
    simp only [length_append] at h1
    omega
   have mtc := mt.conn
   clear hx ha mt
   go_wp2_with ((refine qAc rfl fun K hK => ?_; (with_reducible refine qHw (ops := #[]) (.tmp 21) (.tmp 23) 36 124 (.agg #[.string ⟨#[]⟩, .string ⟨#[]⟩, .slice none 0 0]) 56 ?_ underlying36 qN8 ?_ ?_ u3 _ (x.conn ++ (x.media.take k).flatMap (fun m => m.conn)) x.media[k].conn ?_ ?_ mtc (hrow.nw ((Nw.refl _).alloc _)) (hnw.alloc _) ?_ ?_ ?_); (focus rfl); (focus rfl); (focus decide); (focus rfl); (focus rfl); (focus ((try simp only [length_append, length_nil]); omega)); (focus ((try simp only [length_append, length_nil]); omega)); intro z2 w2 hr2 hn2; refine hK _ _ ?_))
   exact ⟨⟨k + 1, by omega, by go_num, by rw [<- HT.out, <- List.append_assoc]; exact hr2, hn2⟩, by simp [intOf]; omega⟩
 rw [List.take_of_length_le (by omega)] at hrow
 have hlz : (x.conn ++ x.media.flatMap (fun m => m.conn)).length <= 140737488355328 := by have := LL.out; unfold qG4 at this; omega
 have hsl := qAo.sl hrow hlz
 obtain ⟨zs, hzs⟩ : ∃ zs, zs = x.conn ++ x.media.flatMap (fun m => m.conn) := ⟨_, rfl⟩
 rw [<- hzs] at hsl hlz
 have HZ : Hid (bare x = zs.all qLe) := hid (by rw [hzs]; rfl)
 clear hzs hrow
 obtain ⟨A, c, rfl⟩ := Ty.Sl_form hsl
 go_wp2
 have qw : Nw w wr := qA.trans hnw
 go_loopw [28] (fun i w2 => ∃ k : Nat, k <= zs.length /\ i = .int .i64 k /\ Hid ((zs.take k).all qLe = true) /\ Nw wr w2) (fun i _ => zs.length - (intOf i).toNat)
 case atStart => exact ⟨0, Nat.zero_le _, rfl, hid (by simp), Nw.refl _⟩
 obtain ⟨k, hk, rfl, hall, hnw2⟩ := hrel
 by_cases hlt2 : k < zs.length
 · obtain ⟨b, o, rfl, ha⟩ := Ty.Sl_at hsl k hlt2
   obtain ⟨cs, ⟨v1, rfl, hw0, hw1, h1⟩, hx⟩ := ha k _ (List.getElem?_eq_getElem hlt2)
   obtain ⟨A1, n1, rfl⟩ := Ty.Sl_form h1
   have c0 := hnw2.cell (hx 0 _ rfl)
   have c1 := hnw2.cell (hx 1 _ rfl)
   have c2 := hnw2.cell (hx 2 _ rfl)
   simp only [qC0, Nat.add_zero] at c0 c1 c2
   have HT := hid (qBm hlt2 hall.out)
   have HF : Hid (qLe zs[k] = false -> bare x = false) := hid (fun e => by rw [HZ.out]; exact qA6 hlt2 e)
   have hm1 := h1.1
   clear hx ha
   obtain ⟨t, ht⟩ : ∃ t, t = zs[k] := ⟨_, rfl⟩
   rw [<- ht] at c0 c1 c2 h1 hm1 HT HF
   clear ht
   go_wp2
   obtain ⟨wo, hwo⟩ : ∃ wo, wo = wr.alloc (.cells #[.string t.net, .string t.addr, .slice A1 t.adrs.length n1] 124) := ⟨_, rfl⟩
   have hqo : Nw wr wo := by rw [hwo]; exact (Nw.refl wr).alloc _
   have hno := hnw2.trans hqo
   rw [<- hwo]
   clear hwo c0 c1 c2
   go_loopw [35] (fun i w3 => ∃ j : Nat, j <= t.adrs.length /\ i = .int .i64 j /\ Hid ((t.adrs.take j).all qNy = true) /\ Nw wo w3) (fun i _ => t.adrs.length - (intOf i).toNat)
   case atStart => exact ⟨0, Nat.zero_le _, rfl, hid (by simp), Nw.refl _⟩
   obtain ⟨j, hj, rfl, hall2, hnw3⟩ := hrel
   by_cases hlt3 : j < t.adrs.length
   · obtain ⟨b9, o9, rfl, ha2⟩ := Ty.Sl_at h1 j hlt3
     obtain ⟨cs, ⟨q1, q2, rfl, hw2, t1, t2⟩, hx⟩ := ha2 j _ (List.getElem?_eq_getElem hlt3)
     obtain ⟨A2, n2, rfl⟩ := Ty.Sl_form t1
     obtain ⟨A3, n3, rfl⟩ := Ty.Sl_form t2
     have c0 := (hno.trans hnw3).cell (hx 0 _ rfl)
     have c1 := (hno.trans hnw3).cell (hx 1 _ rfl)
     have c2 := (hno.trans hnw3).cell (hx 2 _ rfl)
     simp only [qE2, Nat.add_zero] at c0 c1 c2
     have HT2 := hid (qBm hlt3 hall2.out)
     have HF2 : Hid (qNy t.adrs[j] = false -> bare x = false) := hid (fun e => HF.out (qA6 hlt3 e))
     have l1 := t1.1
     have l2 := t2.1
     have q9 : Nw w wr := (qw.trans hno).trans hnw3
     clear hx ha2
     by_cases hb : (0 : Int) < (t.adrs[j].ttl.length : Int) + (t.adrs[j].rng.length : Int)
     · go_wp2
       go_ret
       exact ⟨qAa (by rw [HF2.out (by unfold qNy; rw [decide_eq_false (by omega)])]), q9.alloc _⟩
     go_wp2
     exact ⟨⟨j + 1, by omega, by go_num, hid (by rw [HT2.out]; unfold qNy; rw [decide_eq_true (by omega)]), hnw3.alloc _⟩, by simp [intOf]; omega⟩
   have HE : Hid (qLe t = true) := hid (by unfold qLe; rw [<- hall2.out, List.take_of_length_le (by omega)])
   go_wp2
   exact ⟨⟨k + 1, by omega, by go_num, hid (by rw [HT.out, HE.out]), hno.trans hnw3⟩, by simp [intOf]; omega⟩
 have HE : Hid (bare x = true) := hid (by rw [HZ.out, <- hall.out, List.take_of_length_le (by omega)])
 go_wp2
 go_ret
 exact ⟨qAa (by rw [HE.out]), qw.trans hnw2⟩
end Go.Proofs.YtcepdjlknalmnaaGreatDoor

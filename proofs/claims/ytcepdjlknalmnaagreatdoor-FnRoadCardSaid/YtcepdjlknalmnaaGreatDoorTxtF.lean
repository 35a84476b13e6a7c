/- The reference's lines of a session. Written by a small program of this claim's own (genlines). -/
import Derived.Test.YtcepdjlknalmnaaGreatDoorZst
import Derived.Test.YtcepdjlknalmnaaGreatDoorLineD
set_option linter.unusedSimpArgs false
set_option linter.unusedVariables false
namespace Go.Proofs.YtcepdjlknalmnaaGreatDoor
open Tryz
open List (length_append append_assoc)
open Lib (hid itoa decDigits)
open Go.RowKit
attribute [local go_sem ↓] Go.wp_at_zero Go.wp_at_succ
def qBb (w : World) (g : Nat) (l : List Value) : Prop := ∀ j u, l[j]? = some u -> w.cell? ⟨g, j, none⟩ = some u
theorem qBb.nw {w w' : World} {g : Nat} {l : List Value} (h : qBb w g l) (hn : Nw w w') : qBb w' g l := fun j u hu => hn.cell (h j u hu)
theorem qBb.fr {S : Nat -> Prop} {w w' : World} {g : Nat} {l : List Value} (h : qBb w g l) (hf : Fr S w w') (hs : ¬ S g) : qBb w' g l := fun j u hu => hf.cell hs (h j u hu)
theorem qBb.made (w : World) (l : List Value) (e : TypeId) : qBb (w.alloc (.cells l.toArray e)) w.heap.size l := fun j u hu => by
 have := World.news_of_block (cs := l.toArray) (t := e) (fr := (0, 0)) (heap_alloc_new w _) j u (by simpa using hu)
 rw [qE1] at this
 simpa using this
theorem qB2.lower {w : World} {B B' : Nat} {v : Value} {ls : List (List UInt8)} (h : qB2 w B v ls) (hb : B' <= B) : qB2 w B' v ls := Row.lower h hb
theorem qB2.made (W : World) (B : Nat) (hB : B <= W.heap.size) (ls : List (List UInt8)) (hn : ls.length <= 1000) : qB2 (W.alloc (.cells ((ls.map mk).map Value.string).toArray 9)) B (.slice (some ⟨W.heap.size, 0, none⟩) ls.length ls.length) ls := by
 have hfl : ∀ l : List ByteArray, (l.map (fun s => [Value.string s])).flatten = l.map Value.string := fun l => by
  induction l with
  | nil => rfl
  | cons a l ih => simp [ih]
 have hln : ∀ l : List ByteArray, (l.map (fun s => [Value.string s])).flatten.length = l.length := fun l => by rw [hfl]; simp
 refine ⟨fun r hr => ?_, by rw [hln]; simp, .inr ⟨W.heap.size, ls.length, ((ls.map mk).map Value.string).toArray, by simp, hB, heap_alloc_new W _, by simp, by simp only [maxLen]; omega, by simp, ?_⟩⟩
 · obtain ⟨s, _, rfl⟩ := List.mem_map.1 hr
   exact ⟨rfl, fun u hu => by rw [List.mem_singleton.1 hu]; rfl⟩
 rw [hfl]; simp [List.take_of_length_le]
theorem qLd {ops : Array Oper} {o : Oper} {a : Act} {Q : Exit -> Act -> World -> Prop} {K : Act -> World -> Prop} {w0 W : World} (s x : Operand)
 (ho : o.op = .call { callee := .builtin .append, args := #[s, x], argTypes := #[25, 25] }) (v : Value) (ls : List (List UInt8)) (l l' : List UInt8) (hlen : Hid (l.length <= qBj)) (hlen' : Hid (l'.length <= qBj)) (hs : a.eval s = v) (g : Nat) (hx : a.eval x = .slice (some ⟨g, 0, none⟩) 2 2) (hc : W.cell? ⟨g, 0, none⟩ = some (.string (mk l))) (hc' : W.cell? ⟨g, 1, none⟩ = some (.string (mk l')))
 (HO : qB2 W w0.heap.size v ls) (hn : Nw w0 W) (hl : ls.length + 2 <= 1099511627776)
 (h : ∀ v1 w1, qB2 w1 w0.heap.size v1 (ls ++ [l, l']) -> Nw w0 w1 -> Fr (fun k => some k = v.ownBlock) W w1 -> (v1.ownBlock = v.ownBlock ∨ ∃ b, v1.ownBlock = some b /\ W.heap.size <= b) -> K (a.put o.dst v1) w1) :
 o.wp prog a W K Q := by
 refine qBa (ops := ops) s x ho v _ ls [l, l'] hs hx ⟨by simp, .inr ⟨by simp, g, 0, 2, rfl, by simp, fun k y hy => ?_⟩⟩ HO hn hl h
 have hk : k = 0 ∨ k = 1 := by have := (List.getElem?_eq_some_iff.1 hy).1; simp at this; omega
 rcases hk with rfl | rfl
 · obtain rfl : mk l = y := by simpa using hy
   refine ⟨_, ⟨rfl, by unfold qAb; rw [qAy]; exact hlen.out⟩, fun j u hu => ?_⟩
   have hj : j = 0 := by have := (List.getElem?_eq_some_iff.1 hu).1; simp at this; omega
   subst hj
   obtain rfl : Value.string (mk l) = u := by simpa using hu
   simpa using hc
 obtain rfl : mk l' = y := by simpa using hy
 refine ⟨_, ⟨rfl, by unfold qAb; rw [qAy]; exact hlen'.out⟩, fun j u hu => ?_⟩
 have hj : j = 0 := by have := (List.getElem?_eq_some_iff.1 hu).1; simp at this; omega
 subst hj
 obtain rfl : Value.string (mk l') = u := by simpa using hu
 simpa [qAd, Ty.flat] using hc'
theorem qM4 {v v1 : Value} {W : World} {g : Nat} (h : ¬ some g = v.ownBlock) (ho : v1.ownBlock = v.ownBlock ∨ ∃ b, v1.ownBlock = some b /\ W.heap.size <= b) (hg : g < W.heap.size) : ¬ some g = v1.ownBlock := by
 rcases ho with ho | ⟨b, ho, hb⟩
 · rw [ho]; exact h
 rw [ho]; intro e; injection e with e; omega
set_option maxRecDepth 100000 in
set_option maxHeartbeats 4000000 in
theorem qJm (x : Ssn) (v0 v1 v2 v3 v4 v5 v6 v7 v8 v9 v10 : Value) (w : World) (m : SsnAt w x v0 v1 v2 v3 v4 v5 v6 v7 v8 v9 v10) (hb : Lns (qCw x)) (hc : qI0 x.conn) (hcm : ∀ y ∈ x.media, qI0 y.conn) (hzz : x.zones.length <= 274877906944) :
 Calls prog 10 #[qBv x v0 v1 v2 v3 v4 v5 v6 v7 v8 v9 v10] w fun e w' => ∃ v', e = .returned v' /\ qB2 w' w.heap.size v' (qCw x) /\ Nw w w' := by
 unfold qBv
 obtain ⟨A0, n0, rfl⟩ := Ty.Sl_form m.info
 obtain ⟨A1, n1, rfl⟩ := Ty.Sl_form m.uri
 obtain ⟨A2, n2, rfl⟩ := Ty.Sl_form m.email
 obtain ⟨A3, n3, rfl⟩ := Ty.Sl_form m.phone
 obtain ⟨A4, n4, rfl⟩ := Ty.Sl_form m.conn
 obtain ⟨A5, n5, rfl⟩ := Ty.Sl_form m.bws
 obtain ⟨A6, n6, rfl⟩ := Ty.Sl_form m.times
 obtain ⟨A7, n7, rfl⟩ := Ty.Sl_form m.zones
 obtain ⟨A8, n8, rfl⟩ := Ty.Sl_form m.key
 obtain ⟨A9, n9, rfl⟩ := Ty.Sl_form m.atts
 obtain ⟨A10, n10, rfl⟩ := Ty.Sl_form m.media
 obtain ⟨wA, hwA⟩ : ∃ wA, wA = (w.alloc (.cells #[.int .i64 x.ver, .string x.org.user, .int .u64 x.org.id, .int .u64 x.org.ver, .string x.org.net, .string x.org.addr, .string x.org.adr, .string x.name, .slice A0 x.info.length n0, .slice A1 x.uri.length n1, .slice A2 x.email.length n2, .slice A3 x.phone.length n3, .slice A4 x.conn.length n4, .slice A5 x.bws.length n5, .slice A6 x.times.length n6, .slice A7 x.zones.length n7, .slice A8 x.key.length n8, .slice A9 x.atts.length n9, .slice A10 x.media.length n10] 43)).alloc (.cells #[.string x.org.user, .int .u64 x.org.id, .int .u64 x.org.ver, .string x.org.net, .string x.org.addr, .string x.org.adr] 35) := ⟨_, rfl⟩
 have qA : Nw w wA := by rw [hwA]; exact ((Nw.refl w).alloc _).alloc _
 have HC : Hid (qBb wA w.heap.size [.int .i64 x.ver, .string x.org.user, .int .u64 x.org.id, .int .u64 x.org.ver, .string x.org.net, .string x.org.addr, .string x.org.adr, .string x.name, .slice A0 x.info.length n0, .slice A1 x.uri.length n1, .slice A2 x.email.length n2, .slice A3 x.phone.length n3, .slice A4 x.conn.length n4, .slice A5 x.bws.length n5, .slice A6 x.times.length n6, .slice A7 x.zones.length n7, .slice A8 x.key.length n8, .slice A9 x.atts.length n9, .slice A10 x.media.length n10]) := hid (by rw [hwA]; exact (qBb.made w _ 43).nw ((Nw.refl _).alloc _))
 have HD : Hid (qBb wA (w.heap.size + 1) [.string x.org.user, .int .u64 x.org.id, .int .u64 x.org.ver, .string x.org.net, .string x.org.addr, .string x.org.adr]) := hid (by
  have := qBb.made (w.alloc (.cells #[.int .i64 x.ver, .string x.org.user, .int .u64 x.org.id, .int .u64 x.org.ver, .string x.org.net, .string x.org.addr, .string x.org.adr, .string x.name, .slice A0 x.info.length n0, .slice A1 x.uri.length n1, .slice A2 x.email.length n2, .slice A3 x.phone.length n3, .slice A4 x.conn.length n4, .slice A5 x.bws.length n5, .slice A6 x.times.length n6, .slice A7 x.zones.length n7, .slice A8 x.key.length n8, .slice A9 x.atts.length n9, .slice A10 x.media.length n10] 43)) [.string x.org.user, .int .u64 x.org.id, .int .u64 x.org.ver, .string x.org.net, .string x.org.addr, .string x.org.adr] 35
  rw [hwA]; simpa using this)
 have LB := hid hb
 have LC := hid hc
 have LM := hid hcm
 have hb1 := hb
 unfold qCw qMi at hb1
 have LH := hid hb1.left.left.left.left.left.left.left.left.left.left
 have L0 := hid hb1.left.left.left.left.left.left.left.left.left.right
 have L1 := hid hb1.left.left.left.left.left.left.left.left.right
 have L2 := hid hb1.left.left.left.left.left.left.left.right
 have L3 := hid hb1.left.left.left.left.left.left.right
 have L4 := hid hb1.left.left.left.left.left.right
 have L6 := hid hb1.left.left.left.left.right
 have L7 := hid hb1.left.left.left.right
 have L8 := hid hb1.left.left.right
 have L9 := hid hb1.left.right
 have hlen := hb.len
 unfold qCw qMi at hlen
 simp only [length_append] at hlen
 clear hb hb1 hc hcm
 have q0 : x.org.user.size <= 1152921504606846976 := m.user
 have q1 : x.org.net.size <= 1152921504606846976 := m.onet
 have q2 : x.org.addr.size <= 1152921504606846976 := m.oaddr
 have q3 : x.org.adr.size <= 1152921504606846976 := m.oadr
 have q4 : x.name.size <= 1152921504606846976 := m.name
 have d0 := qE6 m.ver
 have d1 := qFh m.oid
 have d2 := qFh m.over
 have s1 := qGu m.oid
 have s2 := qGu m.over
 have hz := m.zones.1
 have hmd := m.media.1
 have M : Hid (SsnAt wA x (.slice A0 x.info.length n0) (.slice A1 x.uri.length n1) (.slice A2 x.email.length n2) (.slice A3 x.phone.length n3) (.slice A4 x.conn.length n4) (.slice A5 x.bws.length n5) (.slice A6 x.times.length n6) (.slice A7 x.zones.length n7) (.slice A8 x.key.length n8) (.slice A9 x.atts.length n9) (.slice A10 x.media.length n10)) := hid (m.loc qA.block)
 have y0 : ¬ 9223372036854775807 < 2 + (mk ((itoa x.ver))).size := by omega
 have y2 : ¬ 9223372036854775807 < 2 + x.org.user.size := by omega
 have y3 : ¬ 9223372036854775807 < 2 + x.org.user.size + 1 := by omega
 have y4 : ¬ 9223372036854775807 < 2 + x.org.user.size + 1 + (mk ((decDigits (Int.toNat x.org.id)))).size := by omega
 have y5 : ¬ 9223372036854775807 < 2 + x.org.user.size + 1 + (mk ((decDigits (Int.toNat x.org.id)))).size + 1 := by omega
 have y6 : ¬ 9223372036854775807 < 2 + x.org.user.size + 1 + (mk ((decDigits (Int.toNat x.org.id)))).size + 1 + (mk ((decDigits (Int.toNat x.org.ver)))).size := by omega
 have y7 : ¬ 9223372036854775807 < 2 + x.org.user.size + 1 + (mk ((decDigits (Int.toNat x.org.id)))).size + 1 + (mk ((decDigits (Int.toNat x.org.ver)))).size + 1 := by omega
 have y8 : ¬ 9223372036854775807 < 2 + x.org.user.size + 1 + (mk ((decDigits (Int.toNat x.org.id)))).size + 1 + (mk ((decDigits (Int.toNat x.org.ver)))).size + 1 + x.org.net.size := by omega
 have y9 : ¬ 9223372036854775807 < 2 + x.org.user.size + 1 + (mk ((decDigits (Int.toNat x.org.id)))).size + 1 + (mk ((decDigits (Int.toNat x.org.ver)))).size + 1 + x.org.net.size + 1 := by omega
 have y10 : ¬ 9223372036854775807 < 2 + x.org.user.size + 1 + (mk ((decDigits (Int.toNat x.org.id)))).size + 1 + (mk ((decDigits (Int.toNat x.org.ver)))).size + 1 + x.org.net.size + 1 + x.org.addr.size := by omega
 have y11 : ¬ 9223372036854775807 < 2 + x.org.user.size + 1 + (mk ((decDigits (Int.toNat x.org.id)))).size + 1 + (mk ((decDigits (Int.toNat x.org.ver)))).size + 1 + x.org.net.size + 1 + x.org.addr.size + 1 := by omega
 have y12 : ¬ 9223372036854775807 < 2 + x.org.user.size + 1 + (mk ((decDigits (Int.toNat x.org.id)))).size + 1 + (mk ((decDigits (Int.toNat x.org.ver)))).size + 1 + x.org.net.size + 1 + x.org.addr.size + 1 + x.org.adr.size := by omega
 have y13 : ¬ 9223372036854775807 < 2 + x.name.size := by omega
 clear d0 d1 d2 q0 q1 q2 q3 q4
 go_enter func10, ntmps10
 go_wp2
 rw [<- hwA]
 clear m hwA
 go_cut [4] from 13 (fun z wc => qB2 wc wA.heap.size z (qHp x) /\ Nw wA wc)
 case first =>
  have hhh : (wA.cell? ⟨w.heap.size, 0, none⟩ = some (.int .i64 x.ver) /\ wA.cell? ⟨w.heap.size, 7, none⟩ = some (.string x.name) /\ wA.cell? ⟨w.heap.size + 1, 0, none⟩ = some (.string x.org.user) /\ wA.cell? ⟨w.heap.size + 1, 1, none⟩ = some (.int .u64 x.org.id) /\ wA.cell? ⟨w.heap.size + 1, 2, none⟩ = some (.int .u64 x.org.ver) /\ wA.cell? ⟨w.heap.size + 1, 3, none⟩ = some (.string x.org.net) /\ wA.cell? ⟨w.heap.size + 1, 4, none⟩ = some (.string x.org.addr) /\ wA.cell? ⟨w.heap.size + 1, 5, none⟩ = some (.string x.org.adr)) := ⟨qBb.nw HC.out (by (apply_rules [Nw.refl, Nw.drew, Nw.drewN, Nw.alloc])) 0 _ rfl, qBb.nw HC.out (by (apply_rules [Nw.refl, Nw.drew, Nw.drewN, Nw.alloc])) 7 _ rfl, qBb.nw HD.out (by (apply_rules [Nw.refl, Nw.drew, Nw.drewN, Nw.alloc])) 0 _ rfl, qBb.nw HD.out (by (apply_rules [Nw.refl, Nw.drew, Nw.drewN, Nw.alloc])) 1 _ rfl, qBb.nw HD.out (by (apply_rules [Nw.refl, Nw.drew, Nw.drewN, Nw.alloc])) 2 _ rfl, qBb.nw HD.out (by (apply_rules [Nw.refl, Nw.drew, Nw.drewN, Nw.alloc])) 3 _ rfl, qBb.nw HD.out (by (apply_rules [Nw.refl, Nw.drew, Nw.drewN, Nw.alloc])) 4 _ rfl, qBb.nw HD.out (by (apply_rules [Nw.refl, Nw.drew, Nw.drewN, Nw.alloc])) 5 _ rfl⟩
  go_region_held3 (fun w' => w'.cell? ⟨w.heap.size, 0, none⟩ = some (.int .i64 x.ver) /\ w'.cell? ⟨w.heap.size, 7, none⟩ = some (.string x.name) /\ w'.cell? ⟨w.heap.size + 1, 0, none⟩ = some (.string x.org.user) /\ w'.cell? ⟨w.heap.size + 1, 1, none⟩ = some (.int .u64 x.org.id) /\ w'.cell? ⟨w.heap.size + 1, 2, none⟩ = some (.int .u64 x.org.ver) /\ w'.cell? ⟨w.heap.size + 1, 3, none⟩ = some (.string x.org.net) /\ w'.cell? ⟨w.heap.size + 1, 4, none⟩ = some (.string x.org.addr) /\ w'.cell? ⟨w.heap.size + 1, 5, none⟩ = some (.string x.org.adr)) (first | go_keep | exact ⟨qBb.nw HC.out (by (apply_rules [Nw.refl, Nw.drew, Nw.drewN, Nw.alloc]); done) 0 _ rfl, qBb.nw HC.out (by (apply_rules [Nw.refl, Nw.drew, Nw.drewN, Nw.alloc]); done) 7 _ rfl, qBb.nw HD.out (by (apply_rules [Nw.refl, Nw.drew, Nw.drewN, Nw.alloc]); done) 0 _ rfl, qBb.nw HD.out (by (apply_rules [Nw.refl, Nw.drew, Nw.drewN, Nw.alloc]); done) 1 _ rfl, qBb.nw HD.out (by (apply_rules [Nw.refl, Nw.drew, Nw.drewN, Nw.alloc]); done) 2 _ rfl, qBb.nw HD.out (by (apply_rules [Nw.refl, Nw.drew, Nw.drewN, Nw.alloc]); done) 3 _ rfl, qBb.nw HD.out (by (apply_rules [Nw.refl, Nw.drew, Nw.drewN, Nw.alloc]); done) 4 _ rfl, qBb.nw HD.out (by (apply_rules [Nw.refl, Nw.drew, Nw.drewN, Nw.alloc]); done) 5 _ rfl⟩)
   (first
    | (go_at_call 31; with_reducible refine (qD2 x.ver _ M.out.ver).mono ?_; rintro e w1 ⟨rfl, hn1⟩; have hq1 : Nw wA w1 := Nw.trans (by (apply_rules [Nw.refl, Nw.drew, Nw.drewN, Nw.alloc]); done) hn1)
    | (go_at_call 32; with_reducible refine (qDg x.org.id _ s1.1 s1.2).mono ?_; rintro e w2 ⟨rfl, hn2⟩; have hq2 : Nw wA w2 := Nw.trans (by (apply_rules [Nw.refl, Nw.drew, Nw.drewN, Nw.alloc]); done) hn2)
    | (go_at_call 32; with_reducible refine (qDg x.org.ver _ s2.1 s2.2).mono ?_; rintro e w3 ⟨rfl, hn3⟩; have hq3 : Nw wA w3 := Nw.trans (by (apply_rules [Nw.refl, Nw.drew, Nw.drewN, Nw.alloc]); done) hn3))
  rw [show (⟨#[118, 61]⟩ : ByteArray) ++ mk ((itoa x.ver)) = mk (verL x) by unfold verL; (simp [cat, bs, mk, append_assoc]), show (⟨#[111, 61]⟩ : ByteArray) ++ x.org.user ++ ⟨#[32]⟩ ++ mk ((decDigits (Int.toNat x.org.id))) ++ ⟨#[32]⟩ ++ mk ((decDigits (Int.toNat x.org.ver))) ++ ⟨#[32]⟩ ++ x.org.net ++ ⟨#[32]⟩ ++ x.org.addr ++ ⟨#[32]⟩ ++ x.org.adr = mk (orgL x.org) by unfold orgL; (simp [cat, bs, mk, append_assoc]), show (⟨#[115, 61]⟩ : ByteArray) ++ x.name = mk (qOe x) by unfold qOe; (simp [cat, bs, mk, append_assoc])]
  obtain ⟨w4, hw4⟩ : ∃ w4, w4 = w3.alloc (.cells #[.string (mk (verL x)), .string (mk (orgL x.org)), .string (mk (qOe x))] 9) := ⟨_, rfl⟩
  have hr4 : qB2 w4 wA.heap.size (.slice (some ⟨w3.heap.size, 0, none⟩) 3 3) (qHp x) := by
   rw [hw4]; exact qB2.made w3 wA.heap.size hq3.size (qHp x) (by rw [show (qHp x).length = 3 from rfl]; omega)
  have hn4 : Nw wA w4 := by rw [hw4]; exact hq3.alloc _
  rw [<- hw4]
  go_wp2
  go_meet
  case rel => exact ⟨hr4, hn4⟩
 obtain ⟨hr4, hn4⟩ := hcut
 clear y0 y2 y3 y4 y5 y6 y7 y8 y9 y10 y11 y12 y13
 have e0 : (qHp x).length = 3 := rfl
 obtain ⟨ls4, hls4⟩ : ∃ ls4, ls4 = qHp x := ⟨_, rfl⟩
 rw [<- hls4] at hr4 e0 hlen
 have c8 := qBb.nw HC.out hn4 8 _ rfl
 go_upto_if 83 with (first
  | (go_at_call 33; with_reducible refine (qD3 ⟨#[105]⟩ x.info _ _ (Ty.Sl_loc hn4.block M.out.info) L0.out (by decide)).mono ?_; rintro e u5 ⟨t5, rfl, hru5, hnu5⟩)
  | ((refine qAc rfl fun K hK => ?_; (with_reducible refine qBa (ops := #[]) (.tmp 48) (.tmp 51) ?_ u4 _ _ (qCa ⟨#[105]⟩ x.info) ?_ ?_ (qB2.sl hru5 L0.out) (hr4.nw hnu5) (hn4.trans hnu5) ?_ ?_); (focus rfl); (focus rfl); (focus rfl); (focus ((try simp only [length_append]); omega)); intro z5 w5 hr5 hn5 hf5 ho5; refine hK _ _ ?_); have c9 := qBb.nw HC.out hn5 9 _ rfl)
  | (go_at_call 33; with_reducible refine (qD3 ⟨#[117]⟩ x.uri _ _ (Ty.Sl_loc hn5.block M.out.uri) L1.out (by decide)).mono ?_; rintro e u6 ⟨t6, rfl, hru6, hnu6⟩)
  | ((refine qAc rfl fun K hK => ?_; (with_reducible refine qBa (ops := #[]) (.tmp 53) (.tmp 56) ?_ z5 _ _ (qCa ⟨#[117]⟩ x.uri) ?_ ?_ (qB2.sl hru6 L1.out) (hr5.nw hnu6) (hn5.trans hnu6) ?_ ?_); (focus rfl); (focus rfl); (focus rfl); (focus ((try simp only [length_append]); omega)); intro z6 w6 hr6 hn6 hf6 ho6; refine hK _ _ ?_); have c10 := qBb.nw HC.out hn6 10 _ rfl)
  | (go_at_call 33; with_reducible refine (qD3 ⟨#[101]⟩ x.email _ _ (Ty.Sl_loc hn6.block M.out.email) L2.out (by decide)).mono ?_; rintro e u7 ⟨t7, rfl, hru7, hnu7⟩)
  | ((refine qAc rfl fun K hK => ?_; (with_reducible refine qBa (ops := #[]) (.tmp 58) (.tmp 61) ?_ z6 _ _ (qCa ⟨#[101]⟩ x.email) ?_ ?_ (qB2.sl hru7 L2.out) (hr6.nw hnu7) (hn6.trans hnu7) ?_ ?_); (focus rfl); (focus rfl); (focus rfl); (focus ((try simp only [length_append]); omega)); intro z7 w7 hr7 hn7 hf7 ho7; refine hK _ _ ?_); have c11 := qBb.nw HC.out hn7 11 _ rfl)
  | (go_at_call 33; with_reducible refine (qD3 ⟨#[112]⟩ x.phone _ _ (Ty.Sl_loc hn7.block M.out.phone) L3.out (by decide)).mono ?_; rintro e u8 ⟨t8, rfl, hru8, hnu8⟩)
  | ((refine qAc rfl fun K hK => ?_; (with_reducible refine qBa (ops := #[]) (.tmp 63) (.tmp 66) ?_ z7 _ _ (qCa ⟨#[112]⟩ x.phone) ?_ ?_ (qB2.sl hru8 L3.out) (hr7.nw hnu8) (hn7.trans hnu8) ?_ ?_); (focus rfl); (focus rfl); (focus rfl); (focus ((try simp only [length_append]); omega)); intro z8 w8 hr8 hn8 hf8 ho8; refine hK _ _ ?_); have c12 := qBb.nw HC.out hn8 12 _ rfl; have c13 := qBb.nw HC.out hn8 13 _ rfl)
  | (go_at_call 34; with_reducible refine (qIa x.conn x.bws _ _ _ (Ty.Sl_loc hn8.block M.out.conn) (Ty.Sl_loc hn8.block M.out.bws) L4.out LC.out).mono ?_; rintro e u9 ⟨t9, rfl, hru9, hnu9⟩)
  | ((refine qAc rfl fun K hK => ?_; (with_reducible refine qBa (ops := #[]) (.tmp 68) (.tmp 73) ?_ z8 _ _ (qDi x.conn x.bws) ?_ ?_ (qB2.sl hru9 L4.out) (hr8.nw hnu9) (hn8.trans hnu9) ?_ ?_); (focus rfl); (focus rfl); (focus rfl); (focus ((try simp only [length_append]); omega)); intro z9 w9 hr9 hn9 hf9 ho9; refine hK _ _ ?_); have c14 := qBb.nw HC.out hn9 14 _ rfl)
  | (go_at_call 35; with_reducible refine (qNm x.times _ _ (Ty.Sl_loc hn9.block M.out.times) L6.out).mono ?_; rintro e u10 ⟨t10, rfl, hru10, hnu10⟩)
  | ((refine qAc rfl fun K hK => ?_; (with_reducible refine qBa (ops := #[]) (.tmp 75) (.tmp 78) ?_ z9 _ _ (qDx x.times) ?_ ?_ (qB2.sl hru10 L6.out) (hr9.nw hnu10) (hn9.trans hnu10) ?_ ?_); (focus rfl); (focus rfl); (focus rfl); (focus ((try simp only [length_append]); omega)); intro z10 w10 hr10 hn10 hf10 ho10; refine hK _ _ ?_); have c15 := qBb.nw HC.out hn10 15 _ rfl))
 obtain ⟨ls9, hls9⟩ : ∃ ls9, ls9 = ls4 ++ qCa ⟨#[105]⟩ x.info ++ qCa ⟨#[117]⟩ x.uri ++ qCa ⟨#[101]⟩ x.email ++ qCa ⟨#[112]⟩ x.phone ++ qDi x.conn x.bws ++ qDx x.times := ⟨_, rfl⟩
 have hle : ls9.length + (qD4 x.zones).length + (qCa ⟨#[107]⟩ x.key).length + (x.atts.map qHm).length + (x.media.flatMap qDr).length <= 1099511627776 := by rw [hls9]; simp only [length_append]; omega
 rw [<- hls9] at hr10
 have HL9 := hid hls9
 have HL4 := hid hls4
 clear hls9 hls4 hlen e0 c8 c9 c10 c11 c12 c13 c14 hf5 hf6 hf7 hf8 hf9 hf10 ho5 ho6 ho7 ho8 ho9 ho10 hr4 hr5 hr6 hr7 hr8 hr9 hn4 hn5 hn6 hn7 hn8 hn9 hru5 hru6 hru7 hru8 hru9 hru10 hnu5 hnu6 hnu7 hnu8 hnu9 hnu10
 go_cut [4, 5, 7] from 13 (fun z l zz wc => qB2 wc wA.heap.size z (ls9 ++ qD4 x.zones) /\ Nw wA wc)
 case first =>
  by_cases hz0 : x.zones.length = 0
  · go_wp2
    go_meet
    case rel => exact ⟨by unfold qD4; rw [if_pos hz0]; simpa using hr10, hn10⟩
  have LZ : Hid ((qAk [32] ((qBq x.zones).map mk)).length <= qBj /\ qD4 x.zones = [qJa x.zones]) := hid (by
   have h7 := L7.out.all
   unfold qD4 at h7
   rw [if_neg hz0] at h7
   have := h7 _ (List.mem_singleton.2 rfl)
   unfold qJa at this
   rw [length_append] at this
   exact ⟨by omega, by unfold qD4; rw [if_neg hz0]⟩)
  have hzp : (0 : Int) < (x.zones.length : Int) := by omega
  have hle1 : ls9.length + 1 <= 1099511627776 := by rw [LZ.out.2] at hle; simp only [List.length_singleton] at hle; omega
  have hzn : 0 < x.zones.length := by omega
  rw [decide_eq_true hzn]
  clear hz0 hzn
  go_wp2
  go_loopw [5, 87] (fun l i wr => ∃ k : Nat, k <= x.zones.length /\ i = .int .i64 k /\ qB2 wr w10.heap.size l (qBq (x.zones.take k)) /\ Nw w10 wr) (fun l i _ => x.zones.length - (intOf i).toNat)
  case atStart => exact ⟨0, Nat.zero_le _, rfl, qB2.nil _ _, Nw.refl _⟩
  obtain ⟨k, hk, rfl, hrow, hnw⟩ := hrel
  by_cases hlt : k < x.zones.length
  · obtain ⟨b, o, rfl, ha⟩ := Ty.Sl_at M.out.zones k hlt
    obtain ⟨cs, ⟨rfl, hs0, hs1⟩, hx⟩ := ha k _ (List.getElem?_eq_getElem hlt)
    have c0 := (hn10.trans hnw).cell (hx 0 _ rfl)
    have c1 := (hn10.trans hnw).cell (hx 1 _ rfl)
    simp only [qDt, Ty.flat, Nat.add_zero] at c0 c1
    have HT : Hid (qBq (x.zones.take k) ++ [(decDigits (Int.toNat x.zones[k].time)), (itoa x.zones[k].off)] = qBq (x.zones.take (k + 1))) := hid (qDp (fun z : Zon => [(decDigits (Int.toNat z.time)), (itoa z.off)]) hlt)
    have hlenW : (qBq (x.zones.take k)).length + 2 <= 1099511627776 := by
     have h2 : ∀ l : List Zon, (qBq l).length = 2 * l.length := fun l => by
      induction l with
      | nil => rfl
      | cons a l ih => unfold qBq at ih ⊢; rw [List.flatMap_cons, length_append, ih]; simp; omega
     rw [h2]; simp; omega
    clear hx ha
    obtain ⟨t, ht⟩ : ∃ t, t = x.zones[k] := ⟨_, rfl⟩
    rw [<- ht] at c0 c1 hs0 hs1 HT
    clear ht
    have s0 := qGu hs0
    have d0 := qFh hs0
    have d1 := qE6 hs1
    rw [qAy] at d0 d1
    have E0 : Hid (((decDigits (Int.toNat t.time))).length <= qBj) := hid (by simp only [qBj]; omega)
    have E1 : Hid (((itoa t.off)).length <= qBj) := hid (by simp only [qBj]; omega)
    go_wp2
    obtain ⟨wB, hwB⟩ : ∃ wB, wB = wr.alloc (.cells #[.int .u64 t.time, .int .i64 t.off] 81) := ⟨_, rfl⟩
    have g0 : wB.cell? ⟨wr.heap.size, 0, none⟩ = some (.int .u64 t.time) := by rw [hwB]; go_simp
    have g1 : wB.cell? ⟨wr.heap.size, 1, none⟩ = some (.int .i64 t.off) := by rw [hwB]; go_simp
    have hqB : Nw wr wB := by rw [hwB]; exact (Nw.refl wr).alloc _
    have hrowB := hrow.nw hqB
    have hnB := hnw.trans hqB
    have hne : ¬ some wr.heap.size = u5.ownBlock := fun e => Nat.lt_irrefl _ (Row.base hrow _ e.symm).2
    rw [<- hwB]
    clear hwB c0 c1 hrow
    refine qAv 9 (fun w' => w'.cell? ⟨wr.heap.size, 0, none⟩ = some (.int .u64 t.time) /\ w'.cell? ⟨wr.heap.size, 1, none⟩ = some (.int .i64 t.off)) (by kernel_rfl) (⟨g0, g1⟩) (fun hHeld => ?_)
    refine' tkA 0 [9] (by assumption) ?_
    refine' tkA 1 [9] (by assumption) ?_
    refine' tkA 2 [9] (by assumption) ?_
    refine' tkA 4 [9] (by assumption) ?_
    refine' tkA 5 [9] (by assumption) ?_
    try simp only [sP]
    refine' qB9 3 (by kernel_rfl) rfl (by decide) (fun K hK => ?_)
    (go_simp; go_at_call 32; (with_reducible refine (qDg t.time _ s0.1 s0.2).mono ?_); rintro e w1 ⟨rfl, hn1⟩; have hq1 : Nw wB w1 := Nw.trans ((Nw.refl wB).drew) hn1)
    refine hK.out _ _ ?_ (fun hHeld => ?_)
    · exact ⟨hq1.cell g0, hq1.cell g1⟩
    clear hK K
    (try simp only [sP])
    refine' qB9 6 (by kernel_rfl) rfl (by decide) (fun K hK => ?_)
    (go_simp; go_at_call 31; (with_reducible refine (qD2 t.off _ hs1).mono ?_); rintro e w2 ⟨rfl, hn2⟩; have hq2 : Nw wB w2 := hq1.trans hn2)
    refine hK.out _ _ ?_ (fun hHeld => ?_)
    · exact ⟨hq2.cell g0, hq2.cell g1⟩
    clear hK K
    (try simp only [sP])
    refine' qB9 7 (by kernel_rfl) rfl (by decide) (fun K hK => ?_)
    go_simp
    refine hK.out _ _ ?_ (fun hHeld => ?_)
    · exact ⟨(hq2.alloc _).cell g0, (hq2.alloc _).cell g1⟩
    clear hK K
    (try simp only [sP])
    refine' qB9 8 (by kernel_rfl) rfl (by decide) (fun K hK => ?_)
    (refine qA3 rfl ?_; (with_reducible refine qLd (ops := #[]) (.tmp 91) (.tmp 98) ?_ u5 (qBq (x.zones.take k)) _ _ E0 E1 ?_ ?_ ?_ ?_ ?_ (qB2.nw hrowB ?_) (Nw.trans hnB ?_) ?_ ?_); (focus rfl); (focus rfl); rotate_left 1; (focus rfl); (focus go_simp); (focus go_simp); (focus (apply_rules [Nw.refl, Nw.drew, Nw.drewN, Nw.alloc])); (focus (apply_rules [Nw.refl, Nw.drew, Nw.drewN, Nw.alloc])); (focus omega); intro v3 w3 hr3 hn3 hf3 ho3)
    refine hK.out _ _ ?_ (fun hHeld => ?_)
    · exact ⟨hf3.cell hne ((hq2.alloc _).cell g0), hf3.cell hne ((hq2.alloc _).cell g1)⟩
    clear hK K
    (try simp only [sP])
    refine' qBr (by kernel_rfl) rfl (by kernel_rfl) (fun K hK => ?_)
    go_simp
    refine hK.out _ _ ?_
    clear hK K
    go_wp2
    exact ⟨⟨k + 1, by omega, by go_num, by rw [<- HT.out]; exact hr3, hn3⟩, by simp [intOf]; omega⟩
  rw [List.take_of_length_le (by omega)] at hrow
  have LW : Hid (Lns (qBq x.zones)) := hid (by
   have h2 : ∀ l : List Zon, (qBq l).length = 2 * l.length := fun l => by
    induction l with
    | nil => rfl
    | cons a l ih => unfold qBq at ih ⊢; rw [List.flatMap_cons, length_append, ih]; simp; omega
   refine ⟨by rw [h2]; omega, fun l hl => ?_⟩
   obtain ⟨z, hz1, hz2⟩ := List.mem_flatMap.1 hl
   obtain ⟨i, hi, rfl⟩ := List.getElem_of_mem hz1
   obtain ⟨b, o, _, ha⟩ := Ty.Sl_at M.out.zones i hi
   obtain ⟨cs, ⟨_, hs0, hs1⟩, _⟩ := ha i _ (List.getElem?_eq_getElem hi)
   have d0 := qFh hs0
   have d1 := qE6 hs1
   rw [qAy] at d0 d1
   simp only [List.mem_cons, List.not_mem_nil, or_false] at hz2
   rcases hz2 with rfl | rfl <;> simp only [qBj] <;> omega)
  have HS : Hid ((⟨#[122, 61]⟩ : ByteArray) ++ mk (qAk (bs ⟨#[32]⟩) ((qBq x.zones).map mk)) = mk (qJa x.zones)) := hid (by unfold qJa; (simp [cat, bs, mk, append_assoc]))
  have hrow10 := hr10.nw hnw
  have hn11 := hn10.trans hnw
  have e1 : (mk (qAk (bs ⟨#[32]⟩) ((qBq x.zones).map mk))).size <= 1152921504606846976 := by rw [qAy]; exact LZ.out.1
  go_wp2_with (first
   | (go_at_call 36; with_reducible refine (qGi ((qBq x.zones).map mk) _ ⟨#[32]⟩ _ (qB2.sl hrow LW.out) LZ.out.1).mono ?_; rintro e w13 ⟨rfl, hn13⟩)
   | ((refine qAc rfl fun K hK => ?_; (with_reducible refine qCd (ops := #[]) (.tmp 101) (.tmp 105) ?_ z10 ls9 _ _ HS ?_ ?_ ?_ ?_ (hrow10.nw hn13) (hn11.trans hn13) ?_ ?_); (focus rfl); (focus rfl); rotate_left 1; (focus rfl); (focus simp only [World.alloc, Array.size_push]); (focus omega); intro v1 w9 hr9 hn9 hf9 ho9; refine hK _ _ ?_)))
  go_meet
  case rel => exact ⟨by rw [LZ.out.2]; exact hr9, hn9⟩
 obtain ⟨hr11, hn11⟩ := hcut
 have c16 := qBb.nw HC.out hn11 16 _ rfl
 have c17 := qBb.nw HC.out hn11 17 _ rfl
 clear hr10 hn10
 go_wp2
 go_cut [4] from 107 to 115 (fun z wc => qB2 wc wA.heap.size z (ls9 ++ qD4 x.zones ++ qCa ⟨#[107]⟩ x.key ++ x.atts.map qHm) /\ Nw wA wc)
 case first =>
  go_region_held3 (fun w' => w'.cell? ⟨w.heap.size, 16, none⟩ = some (.slice A8 x.key.length n8) /\ w'.cell? ⟨w.heap.size, 17, none⟩ = some (.slice A9 x.atts.length n9)) (first | exact ⟨qBb.nw HC.out (by (apply_rules [Nw.refl, Nw.drew, Nw.drewN, Nw.alloc]); done) 16 _ rfl, qBb.nw HC.out (by (apply_rules [Nw.refl, Nw.drew, Nw.drewN, Nw.alloc]); done) 17 _ rfl⟩ | go_keep)
   (first
    | (go_at_call 33; with_reducible refine (qD3 ⟨#[107]⟩ x.key _ _ (Ty.Sl_loc (Nw.block (w := wA) (by (apply_rules [Nw.refl, Nw.drew, Nw.drewN, Nw.alloc]); done)) M.out.key) L8.out (by decide)).mono ?_; rintro e w12 ⟨t12, rfl, hru12, hnu12⟩; have hq12 : Nw wc w12 := Nw.trans (by (apply_rules [Nw.refl, Nw.drew, Nw.drewN, Nw.alloc]); done) hnu12; have hp12 : Nw wA w12 := hn11.trans hq12)
    | ((refine qA3 rfl ?_; (with_reducible refine qBa (ops := #[]) (.tmp 107) (.tmp 110) ?_ u4 _ _ (qCa ⟨#[107]⟩ x.key) ?_ ?_ (qB2.sl (qB2.nw hru12 (by (apply_rules [Nw.refl, Nw.drew, Nw.drewN, Nw.alloc]); done)) L8.out) (qB2.nw hr11 (by (apply_rules [Nw.refl, Nw.drew, Nw.drewN, Nw.alloc]); done)) (Nw.trans hn11 (by (apply_rules [Nw.refl, Nw.drew, Nw.drewN, Nw.alloc]); done)) ?_ ?_); (focus rfl); (focus rfl); (focus rfl); (focus ((try simp only [length_append]); omega)); intro z13 w13 hr13 hn13 hf13 ho13))
    | (go_at_call 37; with_reducible refine (qH8 x.atts _ _ (Ty.Sl_loc (Nw.block (w := wA) (by (apply_rules [Nw.refl, Nw.drew, Nw.drewN, Nw.alloc]); done)) M.out.atts) L9.out).mono ?_; rintro e w14 ⟨t14, rfl, hru14, hnu14⟩; have hq14 : Nw w13 w14 := Nw.trans (by (apply_rules [Nw.refl, Nw.drew, Nw.drewN, Nw.alloc]); done) hnu14; have hp14 : Nw wA w14 := hn13.trans hq14)
    | ((refine qA3 rfl ?_; (with_reducible refine qBa (ops := #[]) (.tmp 111) (.tmp 114) ?_ z13 _ _ (x.atts.map qHm) ?_ ?_ (qB2.sl (qB2.nw hru14 (by (apply_rules [Nw.refl, Nw.drew, Nw.drewN, Nw.alloc]); done)) L9.out) (qB2.nw hr13 (by (apply_rules [Nw.refl, Nw.drew, Nw.drewN, Nw.alloc]); done)) (Nw.trans hn13 (by (apply_rules [Nw.refl, Nw.drew, Nw.drewN, Nw.alloc]); done)) ?_ ?_); (focus rfl); (focus rfl); (focus rfl); (focus ((try simp only [length_append]); omega)); intro z15 w15 hr15 hn15 hf15 ho15)))
  go_wp2
  go_meet
  case rel => exact ⟨hr15, hn15⟩
 obtain ⟨hr16, hn16⟩ := hcut
 obtain ⟨lsS, hlsS⟩ : ∃ lsS, lsS = ls9 ++ qD4 x.zones ++ qCa ⟨#[107]⟩ x.key ++ x.atts.map qHm := ⟨_, rfl⟩
 have HLS : Hid (lsS ++ x.media.flatMap qDr = qCw x) := hid (by rw [hlsS, HL9.out, HL4.out]; rfl)
 have hleS : lsS.length + (x.media.flatMap qDr).length <= 1099511627776 := by rw [hlsS]; simp only [length_append]; omega
 rw [<- hlsS] at hr16
 have c18 := qBb.nw HC.out hn16 18 _ rfl
 clear hlsS HL9 HL4 hle c16 c17 hr11 hn11
 go_wp2
 go_loopw [4, 119] (fun z i wr => ∃ k : Nat, k <= x.media.length /\ i = .int .i64 k /\ qB2 wr wA.heap.size z (lsS ++ (x.media.take k).flatMap qDr) /\ Nw wA wr) (fun z i _ => x.media.length - (intOf i).toNat)
 case atStart => exact ⟨0, Nat.zero_le _, rfl, by simpa using hr16, hn16⟩
 obtain ⟨k, hk, rfl, hrow, hnw⟩ := hrel
 by_cases hlt : k < x.media.length
 · obtain ⟨b, o, rfl, ha⟩ := Ty.Sl_at M.out.media k hlt
   obtain ⟨cs, ⟨p0, p1, p2, p3, p4, p5, p6, p7, rfl, mt⟩, hx⟩ := ha k _ (List.getElem?_eq_getElem hlt)
   have c0 := hnw.cell (hx 0 _ rfl)
   have c1 := hnw.cell (hx 1 _ rfl)
   have c2 := hnw.cell (hx 2 _ rfl)
   have c3 := hnw.cell (hx 3 _ rfl)
   have c4 := hnw.cell (hx 4 _ rfl)
   have c5 := hnw.cell (hx 5 _ rfl)
   have c6 := hnw.cell (hx 6 _ rfl)
   have c7 := hnw.cell (hx 7 _ rfl)
   have c8 := hnw.cell (hx 8 _ rfl)
   have c9 := hnw.cell (hx 9 _ rfl)
   simp only [qEj, Nat.add_zero] at c0 c1 c2 c3 c4 c5 c6 c7 c8 c9
   have hsp := qG6 qDr hlt
   have HT : Hid (lsS ++ (x.media.take k).flatMap qDr ++ qDr x.media[k] = lsS ++ (x.media.take (k + 1)).flatMap qDr) := hid (by rw [append_assoc, qDp qDr hlt])
   have hmem := List.getElem_mem hlt
   have LT : Lns (qDr x.media[k]) := by
    have := LB.out
    unfold qCw at this
    rw [hsp] at this
    exact this.right.left.right
   have hlk : lsS.length + ((x.media.take k).flatMap qDr).length + (qDr x.media[k]).length <= 1099511627776 := by
    rw [hsp] at hleS; simp only [length_append] at hleS; omega
   have LCt := LM.out _ hmem
   clear hx ha hsp hmem
   obtain ⟨t, ht⟩ : ∃ t, t = x.media[k] := ⟨_, rfl⟩
   rw [<- ht] at c0 c1 mt HT LT hlk LCt
   clear ht
   obtain ⟨B0, r0, rfl⟩ := Ty.Sl_form mt.ports
   obtain ⟨B1, r1, rfl⟩ := Ty.Sl_form mt.protos
   obtain ⟨B2, r2, rfl⟩ := Ty.Sl_form mt.fmts
   obtain ⟨B3, r3, rfl⟩ := Ty.Sl_form mt.title
   obtain ⟨B4, r4, rfl⟩ := Ty.Sl_form mt.conn
   obtain ⟨B5, r5, rfl⟩ := Ty.Sl_form mt.bws
   obtain ⟨B6, r6, rfl⟩ := Ty.Sl_form mt.key
   obtain ⟨B7, r7, rfl⟩ := Ty.Sl_form mt.atts
   have hpl := mt.ports.1
   have MT := hid mt
   have hml : (qDr t).length = 1 + (qCa ⟨#[105]⟩ t.title).length + (qDi t.conn t.bws).length + (qCa ⟨#[107]⟩ t.key).length + (t.atts.map qHm).length := by unfold qDr; simp only [length_append]; rfl
   rw [hml] at hlk
   clear hml
   unfold qDr at LT
   have T0 := LT.left.left.left.left.all _ (List.mem_singleton.2 rfl)
   have T1 := hid LT.left.left.left.right
   have T2 := hid LT.left.left.right
   have T3 := hid LT.left.right
   have T4 := hid LT.right
   have T5 := hid LCt
   have T0h : Hid ((medL t).length <= qBj) := hid T0
   unfold medL at T0
   simp only [length_append, qC4] at T0
   clear LT LCt mt
   go_upto_region 21 with fail
   obtain ⟨gM, hgM⟩ : ∃ gM, gM = wr.heap.size := ⟨_, rfl⟩
   obtain ⟨wB, hwB⟩ : ∃ wB, wB = wr.alloc (.cells #[.string t.name, .int .i64 t.port, .slice B0 t.ports.length r0, .slice B1 t.protos.length r1, .slice B2 t.fmts.length r2, .slice B3 t.title.length r3, .slice B4 t.conn.length r4, .slice B5 t.bws.length r5, .slice B6 t.key.length r6, .slice B7 t.atts.length r7] 86) := ⟨_, rfl⟩
   have HB : Hid (qBb wB gM [.string t.name, .int .i64 t.port, .slice B0 t.ports.length r0, .slice B1 t.protos.length r1, .slice B2 t.fmts.length r2, .slice B3 t.title.length r3, .slice B4 t.conn.length r4, .slice B5 t.bws.length r5, .slice B6 t.key.length r6, .slice B7 t.atts.length r7]) := hid (by rw [hwB, hgM]; exact qBb.made wr _ 86)
   have hqB : Nw wr wB := by rw [hwB]; exact (Nw.refl wr).alloc _
   have hrowB := hrow.nw hqB
   have hnB := hnw.trans hqB
   have hgB : gM < wB.heap.size := by rw [hwB, hgM]; simp
   have hne : ¬ some gM = u4.ownBlock := fun e => Nat.lt_irrefl _ (Row.base hrow _ (by rw [<- hgM]; exact e.symm)).2
   rw [<- hwB, <- hgM]
   clear hwB hgM c0 c1 c2 c3 c4 c5 c6 c7 c8 c9 hrow
   have g1 := HB.out 1 _ rfl
   have g2 := HB.out 2 _ rfl
   have x0 : (0 : Int) <= t.port % 18446744073709551616 := by omega
   have x1 : t.port % 18446744073709551616 < 18446744073709551616 := by omega
   have hw : IntKind.u64.wrap t.port = t.port % 18446744073709551616 := IntKind.wrap_u64 _
   have HPL : Hid (qCo t = decDigits (t.port % 18446744073709551616).toNat ++ qAx t.ports) := hid rfl
   have hpsz : (decDigits (t.port % 18446744073709551616).toNat).length + (qAx t.ports).length = (qCo t).length := by rw [<- length_append]; rfl
   obtain ⟨pz, hpz⟩ : ∃ pz, pz = t.port % 18446744073709551616 := ⟨_, rfl⟩
   rw [<- hpz] at x0 x1 hw HPL hpsz
   clear hpz
   go_wp2_with (go_at_call 32; with_reducible refine (qDg pz _ x0 x1).mono ?_; rintro e w17 ⟨rfl, hn17⟩; have g2' := Nw.cell hn17 g2)
   have hpt : (qAx (t.ports.take 0)) = [] := rfl
   go_loopw [10, 130] (fun s i wr => ∃ l : Nat, l <= t.ports.length /\ i = .int .i64 l /\ s = .string (mk (decDigits pz.toNat ++ qAx (t.ports.take l))) /\ Nw wB wr) (fun s i _ => t.ports.length - (intOf i).toNat)
   case atStart => exact ⟨0, Nat.zero_le _, rfl, by rw [hpt, List.append_nil], hn17⟩
   obtain ⟨l, hl, rfl, rfl, hnw3⟩ := hrel
   by_cases hlt3 : l < t.ports.length
   · obtain ⟨b2, o2, rfl, ha2⟩ := Ty.Sl_at MT.out.ports l hlt3
     obtain ⟨cs, ⟨rfl, hwf⟩, hx⟩ := ha2 l _ (List.getElem?_eq_getElem hlt3)
     have hx := (hnB.trans hnw3).cell (hx 0 _ rfl)
     simp only [tyI, qCn, Ty.flat, Nat.mul_one, Nat.add_zero] at hx
     have p0 : (0 : Int) <= t.ports[l] % 18446744073709551616 := by omega
     have p1 : t.ports[l] % 18446744073709551616 < 18446744073709551616 := by omega
     have d0 := qDf (u := (t.ports[l] % 18446744073709551616).toNat) (by omega)
     have HS2 : Hid (mk (decDigits pz.toNat ++ qAx (t.ports.take l)) ++ ((⟨#[47]⟩ : ByteArray) ++ mk ((decDigits (Int.toNat (t.ports[l] % 18446744073709551616))))) = mk (decDigits pz.toNat ++ qAx (t.ports.take (l + 1)))) := hid (by
      rw [show qAx (t.ports.take (l + 1)) = qAx (t.ports.take l) ++ ([47] ++ (decDigits (Int.toNat (t.ports[l] % 18446744073709551616)))) from (qDp (fun n => [47] ++ (decDigits (Int.toNat (n % 18446744073709551616)))) hlt3).symm]
      (simp [cat, bs, mk, append_assoc]))
     have e0 := qCq ⟨#[47]⟩ (mk ((decDigits (Int.toNat (t.ports[l] % 18446744073709551616)))))
     rw [show (⟨#[47]⟩ : ByteArray).size = 1 from rfl] at e0
     have e1 := qAy (decDigits pz.toNat ++ qAx (t.ports.take l))
     have e2 : (qAx (t.ports.take l)).length <= (qAx t.ports).length := qLu _ t.ports l
     rw [length_append] at e1
     simp only [qBj] at T0
     have hw3 : IntKind.u64.wrap t.ports[l] = t.ports[l] % 18446744073709551616 := IntKind.wrap_u64 _
     obtain ⟨z, hz⟩ : ∃ z, z = t.ports[l] % 18446744073709551616 := ⟨_, rfl⟩
     rw [<- hz] at p0 p1 d0 HS2 e0 hw3
     clear hz
     go_wp2_with (go_at_call 32; with_reducible refine (qDg z _ p0 p1).mono ?_; rintro e w6 ⟨rfl, hn6⟩)
     exact ⟨⟨l + 1, by omega, by go_num, by rw [HS2.out], hnw3.trans hn6⟩, by simp [intOf]; omega⟩
   rw [List.take_of_length_le (by omega), <- HPL.out]
   have e1 := qAy (qCo t)
   have e2 := qAy (qAk (bs ⟨#[47]⟩) t.protos)
   have e3 := qAy (qAk (bs ⟨#[32]⟩) t.fmts)
   rw [show qAk [47] t.protos = qAk (bs ⟨#[47]⟩) t.protos from rfl, show qAk [32] t.fmts = qAk (bs ⟨#[32]⟩) t.fmts from rfl] at T0
   have J1 : Hid ((qAk (bs ⟨#[47]⟩) t.protos).length <= qBj) := hid (by omega)
   have J2 : Hid ((qAk (bs ⟨#[32]⟩) t.fmts).length <= qBj) := hid (by omega)
   have HS : Hid ((⟨#[109, 61]⟩ : ByteArray) ++ t.name ++ ⟨#[32]⟩ ++ mk (qCo t) ++ ⟨#[32]⟩ ++ mk (qAk (bs ⟨#[47]⟩) t.protos) ++ ⟨#[32]⟩ ++ mk (qAk (bs ⟨#[32]⟩) t.fmts) = mk (medL t)) := hid (by unfold medL; (simp [cat, bs, mk, append_assoc]))
   simp only [qBj, List.length_cons, List.length_nil] at T0
   have y0 : ¬ 9223372036854775807 < 2 + t.name.size := by omega
   have y1 : ¬ 9223372036854775807 < 2 + t.name.size + 1 := by omega
   have y2 : ¬ 9223372036854775807 < 2 + t.name.size + 1 + (mk (qCo t)).size := by omega
   have y3 : ¬ 9223372036854775807 < 2 + t.name.size + 1 + (mk (qCo t)).size + 1 := by omega
   have y4 : ¬ 9223372036854775807 < 2 + t.name.size + 1 + (mk (qCo t)).size + 1 + (mk (qAk (bs ⟨#[47]⟩) t.protos)).size := by omega
   have y5 : ¬ 9223372036854775807 < 2 + t.name.size + 1 + (mk (qCo t)).size + 1 + (mk (qAk (bs ⟨#[47]⟩) t.protos)).size + 1 := by omega
   have y6 : ¬ 9223372036854775807 < 2 + t.name.size + 1 + (mk (qCo t)).size + 1 + (mk (qAk (bs ⟨#[47]⟩) t.protos)).size + 1 + (mk (qAk (bs ⟨#[32]⟩) t.fmts)).size := by omega
   have hrowP := hrowB.nw hnw3
   have hnP := hnB.trans hnw3
   have HBP : Hid (qBb _ _ _) := hid (qBb.nw HB.out hnw3)
   have hgP := Nat.lt_of_lt_of_le hgB hnw3.size
   have G : Hid (wr.cell? ⟨gM, 0, none⟩ = some (.string t.name) /\ wr.cell? ⟨gM, 3, none⟩ = some (.slice B1 t.protos.length r1) /\ wr.cell? ⟨gM, 4, none⟩ = some (.slice B2 t.fmts.length r2)) := hid ⟨HBP.out 0 _ rfl, HBP.out 3 _ rfl, HBP.out 4 _ rfl⟩
   have hG := G.out
   have hl20 : (lsS ++ (x.media.take k).flatMap qDr).length + 1 <= 1099511627776 := by rw [length_append]; omega
   clear T0 e1 e2 e3 hpsz hrowB HB g1 g2 g2' hgB
   go_wp2
   go_cut [4] from 141 to 159 (fun z wc => qB2 wc wA.heap.size z (lsS ++ (x.media.take k).flatMap qDr ++ [medL t]) /\ Nw wA wc /\ Hid (qBb wc gM [.string t.name, .int .i64 t.port, .slice B0 t.ports.length r0, .slice B1 t.protos.length r1, .slice B2 t.fmts.length r2, .slice B3 t.title.length r3, .slice B4 t.conn.length r4, .slice B5 t.bws.length r5, .slice B6 t.key.length r6, .slice B7 t.atts.length r7]) /\ gM < wc.heap.size /\ ¬ some gM = z.ownBlock)
   case first =>
    refine qAv 19 (fun w' => w'.cell? ⟨gM, 0, none⟩ = some (.string t.name) /\ w'.cell? ⟨gM, 3, none⟩ = some (.slice B1 t.protos.length r1) /\ w'.cell? ⟨gM, 4, none⟩ = some (.slice B2 t.fmts.length r2)) (by kernel_rfl) (G.out) (fun hHeld => ?_)
    refine' tkA 0 [19] (by assumption) ?_
    refine' tkA 1 [19] (by assumption) ?_
    refine' tkA 2 [19] (by assumption) ?_
    refine' tkA 3 [19] (by assumption) ?_
    refine' tkA 4 [19] (by assumption) ?_
    refine' tkA 5 [19] (by assumption) ?_
    refine' tkA 6 [19] (by assumption) ?_
    refine' tkA 7 [19] (by assumption) ?_
    refine' tkA 8 [19] (by assumption) ?_
    refine' tkA 9 [19] (by assumption) ?_
    refine' tkA 13 [19] (by assumption) ?_
    refine' tkA 14 [19] (by assumption) ?_
    try simp only [sP]
    refine' qB9 10 (by kernel_rfl) rfl (by decide) (fun K hK => ?_)
    (go_simp; go_at_call 36; (with_reducible refine (qGi t.protos _ ⟨#[47]⟩ _ (Ty.Sl_loc (Nw.block (w := wA) (Nw.trans hnP ((Nw.refl wr).drew))) MT.out.protos) J1.out).mono ?_); rintro e w18 ⟨rfl, hn18⟩; have hq18 : Nw wr w18 := Nw.trans ((Nw.refl wr).drew) hn18)
    refine hK.out _ _ ?_ (fun hHeld => ?_)
    · exact ⟨qBb.nw HBP.out hq18 0 _ rfl, qBb.nw HBP.out hq18 3 _ rfl, qBb.nw HBP.out hq18 4 _ rfl⟩
    clear hK K
    refine' tkA 11 [19] (by assumption) ?_
    refine' tkA 12 [19] (by assumption) ?_
    try simp only [sP]
    refine' qB9 15 (by kernel_rfl) rfl (by decide) (fun K hK => ?_)
    (go_simp; go_at_call 36; (with_reducible refine (qGi t.fmts _ ⟨#[32]⟩ _ (Ty.Sl_loc (Nw.block (w := wA) (Nw.trans hnP hq18)) MT.out.fmts) J2.out).mono ?_); rintro e w19 ⟨rfl, hn19⟩; have hq19 : Nw wr w19 := hq18.trans hn19)
    refine hK.out _ _ ?_ (fun hHeld => ?_)
    · exact ⟨qBb.nw HBP.out hq19 0 _ rfl, qBb.nw HBP.out hq19 3 _ rfl, qBb.nw HBP.out hq19 4 _ rfl⟩
    clear hK K
    refine' tkA 16 [19] (by assumption) ?_
    try simp only [sP]
    refine' qB9 17 (by kernel_rfl) rfl (by decide) (fun K hK => ?_)
    go_simp
    refine hK.out _ _ ?_ (fun hHeld => ?_)
    · exact ⟨qBb.nw HBP.out (hq19.alloc _) 0 _ rfl, qBb.nw HBP.out (hq19.alloc _) 3 _ rfl, qBb.nw HBP.out (hq19.alloc _) 4 _ rfl⟩
    clear hK K
    (try simp only [sP])
    refine' qB9 18 (by kernel_rfl) rfl (by decide) (fun K hK => ?_)
    ((refine qA3 rfl ?_; (with_reducible refine qEb (ops := #[]) (.tmp 141) (.tmp 158) ?_ u4 (lsS ++ (x.media.take k).flatMap qDr) _ _ HS T0h ?_ ?_ ?_ ?_ (qB2.nw hrowP ?_) (Nw.trans hnP ?_) ?_ ?_); (focus rfl); (focus rfl); rotate_left 1; (focus rfl); (focus go_simp); (focus (apply_rules [Nw.refl, Nw.drew, Nw.drewN, Nw.alloc])); (focus (apply_rules [Nw.refl, Nw.drew, Nw.drewN, Nw.alloc])); (focus omega); intro v20 w20 hr20 hn20 hf20 ho20); have hs20 := Nat.lt_of_lt_of_le (Nat.lt_of_lt_of_le hgP (Nw.size (Nw.alloc hq19 _))) hf20.size; have hC20 := qBb.fr (qBb.nw HBP.out (Nw.alloc hq19 _)) hf20 hne; have ho20' := qM4 hne ho20 (Nat.lt_of_lt_of_le hgP (Nw.size (Nw.alloc hq19 _))))
    refine hK.out _ _ ?_ (fun hHeld => ?_)
    · exact ⟨hC20 0 _ rfl, hC20 3 _ rfl, hC20 4 _ rfl⟩
    clear hK K
    (try simp only [sP])
    refine' qBr (by kernel_rfl) rfl (by kernel_rfl) (fun K hK => ?_)
    go_simp
    refine hK.out _ _ ?_
    clear hK K
    go_wp2
    go_meet
    case rel => exact ⟨hr20, hn20, hid hC20, hs20, ho20'⟩
   obtain ⟨hr20, hn20, HC20, hs20, hne20⟩ := hcut
   have c5 := HC20.out 5 _ rfl
   have c6 := HC20.out 6 _ rfl
   have c7 := HC20.out 7 _ rfl
   go_wp2
   have hL1 : ([medL t] : List (List UInt8)).length <= 1 := Nat.le_refl _
   go_cut [4] from 160 to 170 (fun z wc => qB2 wc wA.heap.size z (lsS ++ (x.media.take k).flatMap qDr ++ [medL t] ++ qCa ⟨#[105]⟩ t.title ++ qDi t.conn t.bws) /\ Nw wA wc /\ Hid (qBb wc gM [.string t.name, .int .i64 t.port, .slice B0 t.ports.length r0, .slice B1 t.protos.length r1, .slice B2 t.fmts.length r2, .slice B3 t.title.length r3, .slice B4 t.conn.length r4, .slice B5 t.bws.length r5, .slice B6 t.key.length r6, .slice B7 t.atts.length r7]) /\ gM < wc.heap.size /\ ¬ some gM = z.ownBlock)
   case first =>
    (try clear HC); (try clear HD); (try clear LB); (try clear LC); (try clear LM); (try clear LH); (try clear L0); (try clear L1); (try clear L2); (try clear L3); (try clear L4); (try clear L6); (try clear L7); (try clear L8); (try clear L9); (try clear M); (try clear m); (try clear HLS); (try clear hleS); (try clear hlen); (try clear hzz); (try clear hz); (try clear hmd); (try clear s1); (try clear s2); (try clear qA); (try clear hr16); (try clear hn16); (try clear c18); (try clear hlt3); (try clear c0); (try clear c1); (try clear c2); (try clear c3); (try clear c4); (try clear c5); (try clear c6); (try clear c7); (try clear c8); (try clear c9); (try clear G); (try clear hG); (try clear HBP); (try clear hgP); (try clear hrowP); (try clear hnP); (try clear hnw3); (try clear hnB); (try clear hnw); (try clear hne); (try clear y0); (try clear y1); (try clear y2); (try clear y3); (try clear y4); (try clear y5); (try clear y6); (try clear J1); (try clear J2); (try clear HS); (try clear T0h); (try clear HPL); (try clear x0); (try clear x1); (try clear hw); (try clear hpl); (try clear hpt); (try clear hqB); (try clear hn17)
    refine qAv 11 (fun w' => w'.cell? ⟨gM, 5, none⟩ = some (.slice B3 t.title.length r3) /\ w'.cell? ⟨gM, 6, none⟩ = some (.slice B4 t.conn.length r4) /\ w'.cell? ⟨gM, 7, none⟩ = some (.slice B5 t.bws.length r5)) (by kernel_rfl) (⟨HC20.out 5 _ rfl, HC20.out 6 _ rfl, HC20.out 7 _ rfl⟩) (fun hHeld => ?_)
    refine' tkA 0 [11] (by assumption) ?_
    refine' tkA 1 [11] (by assumption) ?_
    refine' tkA 2 [11] (by assumption) ?_
    refine' tkA 5 [11] (by assumption) ?_
    refine' tkA 6 [11] (by assumption) ?_
    refine' tkA 7 [11] (by assumption) ?_
    refine' tkA 8 [11] (by assumption) ?_
    try simp only [sP]
    refine' qB9 3 (by kernel_rfl) rfl (by decide) (fun K hK => ?_)
    (go_simp; go_at_call 33; (with_reducible refine (qD3 ⟨#[105]⟩ t.title _ _ (Ty.Sl_loc (Nw.block (w := wA) (Nw.trans hn20 ((Nw.refl wc).drew))) MT.out.title) T1.out (by decide)).mono ?_); rintro e w21 ⟨t21, rfl, hru21, hnu21⟩; have hq21 : Nw wc w21 := Nw.trans ((Nw.refl wc).drew) hnu21; have HC21 := qBb.nw HC20.out hq21)
    refine hK.out _ _ ?_ (fun hHeld => ?_)
    · exact ⟨HC21 5 _ rfl, HC21 6 _ rfl, HC21 7 _ rfl⟩
    clear hK K
    (try simp only [sP])
    refine' qB9 4 (by kernel_rfl) rfl (by decide) (fun K hK => ?_)
    ((refine qA3 rfl ?_; (with_reducible refine qBa (ops := #[]) (.tmp 160) (.tmp 163) ?_ u4 _ _ (qCa ⟨#[105]⟩ t.title) ?_ ?_ (qB2.sl hru21 T1.out) (qB2.nw hr20 hq21) (Nw.trans hn20 hq21) ?_ ?_); (focus rfl); (focus rfl); (focus rfl); (focus ((try simp only [length_append]); omega)); intro z22 w22 hr22 hn22 hf22 ho22); have hs21 := Nat.lt_of_lt_of_le hs20 hq21.size; have hs22 := Nat.lt_of_lt_of_le hs21 hf22.size; have hne22 := qM4 hne20 ho22 hs21; have HC22 := qBb.fr HC21 hf22 hne20)
    refine hK.out _ _ ?_ (fun hHeld => ?_)
    · exact ⟨HC22 5 _ rfl, HC22 6 _ rfl, HC22 7 _ rfl⟩
    clear hK K
    (try simp only [sP])
    refine' qB9 9 (by kernel_rfl) rfl (by decide) (fun K hK => ?_)
    (go_simp; go_at_call 34; (with_reducible refine (qIa t.conn t.bws _ _ _ (Ty.Sl_loc (Nw.block (w := wA) hn22) MT.out.conn) (Ty.Sl_loc (Nw.block (w := wA) hn22) MT.out.bws) T2.out T5.out).mono ?_); rintro e w23 ⟨t23, rfl, hru23, hnu23⟩; have HC23 := qBb.nw HC22 hnu23)
    refine hK.out _ _ ?_ (fun hHeld => ?_)
    · exact ⟨HC23 5 _ rfl, HC23 6 _ rfl, HC23 7 _ rfl⟩
    clear hK K
    (try simp only [sP])
    refine' qB9 10 (by kernel_rfl) rfl (by decide) (fun K hK => ?_)
    ((refine qA3 rfl ?_; (with_reducible refine qBa (ops := #[]) (.tmp 164) (.tmp 169) ?_ z22 _ _ (qDi t.conn t.bws) ?_ ?_ (qB2.sl hru23 T2.out) (qB2.nw hr22 hnu23) (Nw.trans hn22 hnu23) ?_ ?_); (focus rfl); (focus rfl); (focus rfl); (focus ((try simp only [length_append]); omega)); intro z24 w24 hr24 hn24 hf24 ho24); have hs23 := Nat.lt_of_lt_of_le hs22 hnu23.size; have hs24 := Nat.lt_of_lt_of_le hs23 hf24.size; have hne24 := qM4 hne22 ho24 hs23; have HC24 := qBb.fr HC23 hf24 hne22)
    refine hK.out _ _ ?_ (fun hHeld => ?_)
    · exact ⟨HC24 5 _ rfl, HC24 6 _ rfl, HC24 7 _ rfl⟩
    clear hK K
    (try simp only [sP])
    refine' qBr (by kernel_rfl) rfl (by kernel_rfl) (fun K hK => ?_)
    go_simp
    refine hK.out _ _ ?_
    clear hK K
    go_wp2
    go_meet
    case rel => exact ⟨hr24, hn24, hid HC24, hs24, hne24⟩
   obtain ⟨hr25, hn25, HC25, hs25, hne25⟩ := hcut
   have c8 := HC25.out 8 _ rfl
   have c9 := HC25.out 9 _ rfl
   clear c5 c6 c7 hr20 hn20 HC20 hs20 hne20
   go_wp2
   refine qAv 9 (fun w' => w'.cell? ⟨gM, 8, none⟩ = some (.slice B6 t.key.length r6) /\ w'.cell? ⟨gM, 9, none⟩ = some (.slice B7 t.atts.length r7)) (by kernel_rfl) (⟨HC25.out 8 _ rfl, HC25.out 9 _ rfl⟩) (fun hHeld => ?_)
   refine' tkA 0 [9] (by assumption) ?_
   refine' tkA 1 [9] (by assumption) ?_
   refine' tkA 2 [9] (by assumption) ?_
   refine' tkA 5 [9] (by assumption) ?_
   refine' tkA 6 [9] (by assumption) ?_
   try simp only [sP]
   refine' qB9 3 (by kernel_rfl) rfl (by decide) (fun K hK => ?_)
   (go_simp; go_at_call 33; (with_reducible refine (qD3 ⟨#[107]⟩ t.key _ _ (Ty.Sl_loc (Nw.block (w := wA) (Nw.trans hn25 ((Nw.refl wc).drew))) MT.out.key) T3.out (by decide)).mono ?_); rintro e w26 ⟨t26, rfl, hru26, hnu26⟩; have hq26 : Nw wc w26 := Nw.trans ((Nw.refl wc).drew) hnu26; have HC26 := qBb.nw HC25.out hq26)
   refine hK.out _ _ ?_ (fun hHeld => ?_)
   · exact ⟨HC26 8 _ rfl, HC26 9 _ rfl⟩
   clear hK K
   (try simp only [sP])
   refine' qB9 4 (by kernel_rfl) rfl (by decide) (fun K hK => ?_)
   ((refine qA3 rfl ?_; (with_reducible refine qBa (ops := #[]) (.tmp 171) (.tmp 174) ?_ u4 _ _ (qCa ⟨#[107]⟩ t.key) ?_ ?_ (qB2.sl hru26 T3.out) (qB2.nw hr25 hq26) (Nw.trans hn25 hq26) ?_ ?_); (focus rfl); (focus rfl); (focus rfl); (focus ((try simp only [length_append]); omega)); intro z27 w27 hr27 hn27 hf27 ho27); have hs26 := Nat.lt_of_lt_of_le hs25 hq26.size; have hs27 := Nat.lt_of_lt_of_le hs26 hf27.size; have hne27 := qM4 hne25 ho27 hs26; have HC27 := qBb.fr HC26 hf27 hne25)
   refine hK.out _ _ ?_ (fun hHeld => ?_)
   · exact ⟨HC27 8 _ rfl, HC27 9 _ rfl⟩
   clear hK K
   (try simp only [sP])
   refine' qB9 7 (by kernel_rfl) rfl (by decide) (fun K hK => ?_)
   (go_simp; go_at_call 37; (with_reducible refine (qH8 t.atts _ _ (Ty.Sl_loc (Nw.block (w := wA) hn27) MT.out.atts) T4.out).mono ?_); rintro e w28 ⟨t28, rfl, hru28, hnu28⟩; have HC28 := qBb.nw HC27 hnu28)
   refine hK.out _ _ ?_ (fun hHeld => ?_)
   · exact ⟨HC28 8 _ rfl, HC28 9 _ rfl⟩
   clear hK K
   (try simp only [sP])
   refine' qB9 8 (by kernel_rfl) rfl (by decide) (fun K hK => ?_)
   ((refine qA3 rfl ?_; (with_reducible refine qBa (ops := #[]) (.tmp 175) (.tmp 178) ?_ z27 _ _ (t.atts.map qHm) ?_ ?_ (qB2.sl hru28 T4.out) (qB2.nw hr27 hnu28) (Nw.trans hn27 hnu28) ?_ ?_); (focus rfl); (focus rfl); (focus rfl); (focus ((try simp only [length_append]); omega)); intro z29 w29 hr29 hn29 hf29 ho29); have HC29 := qBb.fr HC28 hf29 hne27)
   refine hK.out _ _ ?_ (fun hHeld => ?_)
   · exact ⟨HC29 8 _ rfl, HC29 9 _ rfl⟩
   clear hK K
   (try simp only [sP])
   refine' qBr (by kernel_rfl) rfl (by kernel_rfl) (fun K hK => ?_)
   go_simp
   refine hK.out _ _ ?_
   clear hK K
   have HE : Hid (lsS ++ (x.media.take k).flatMap qDr ++ [medL t] ++ qCa ⟨#[105]⟩ t.title ++ qDi t.conn t.bws ++ qCa ⟨#[107]⟩ t.key ++ t.atts.map qHm = lsS ++ (x.media.take (k + 1)).flatMap qDr) := hid (by
    rw [<- HT.out]; unfold qDr; simp only [append_assoc])
   rw [HE.out] at hr29
   go_wp2
   exact ⟨⟨k + 1, by omega, by go_num, hr29, hn29⟩, by simp [intOf]; omega⟩
 rw [List.take_of_length_le (by omega), HLS.out] at hrow
 go_wp2
 go_ret
 exact ⟨_, rfl, hrow.lower qA.size, qA.trans hnw⟩
end Go.Proofs.YtcepdjlknalmnaaGreatDoor

/- Laws of this claim. -/
import Derived.Test.YtcepdjlknalmnaaGreatDoorReps
import Derived.Test.YtcepdjlknalmnaaGreatDoorStepF
set_option linter.unusedSimpArgs false
set_option linter.unusedVariables false
namespace Go.Proofs.YtcepdjlknalmnaaGreatDoor
open List (length_append mem_cons_self all_eq_true length_cons)
open Lib (decDigits itoa)
open Go.RowKit
def Seg (s : ByteArray) (p : Nat) (l : List UInt8) : Prop := ∀ i, i < l.length -> (bs s)[p + i]? = l[i]?
theorem qP9 {n : Nat} (h : 14 <= n) : qDm (n : Int) = false := by
 unfold qDm
 simp only [Bool.or_eq_false_iff, beq_eq_false_iff_ne]
 exact ⟨by omega, by omega⟩
theorem ws_no {n : Nat} (h : 33 <= n) : qNn (n : Int) = false := by
 unfold qNn
 simp only [Bool.or_eq_false_iff, beq_eq_false_iff_ne]
 exact ⟨by omega, by omega⟩
def val (l : List UInt8) : Nat := l.foldl (fun a c => a * 10 + (c.toNat - 48)) 0
theorem qMr (l : List UInt8) (c : UInt8) : val (l ++ [c]) = val l * 10 + (c.toNat - 48) := by simp [val, List.foldl_append]
theorem qQa : ∀ u : Nat, val (decDigits u) = u := by
 intro u
 induction u using Nat.strongRecOn with
 | ind u ih =>
  by_cases h : u < 10
  · rw [Lib.decDigits_one h]
    show 0 * 10 + ((UInt8.ofNat (48 + u)).toNat - 48) = u
    rw [qNu h]; omega
  rw [qMh h, Lib.decDigits_one (i := u % 10) (by omega), qMr, ih (u / 10) (by omega), qNu (by omega)]
  omega
theorem fold_le (b : List UInt8) : ∀ acc : Nat, acc <= b.foldl (fun a c => a * 10 + (c.toNat - 48)) acc := by
 induction b with
 | nil => intro acc; exact Nat.le_refl _
 | cons c b ih => intro acc; exact Nat.le_trans (show acc <= acc * 10 + (c.toNat - 48) by omega) (ih _)
theorem qL0 (l : List UInt8) (k : Nat) : val (l.take k) <= val l := by
 conv => rhs; rw [<- List.take_append_drop k l]
 unfold val
 rw [List.foldl_append]
 exact fold_le _ _
namespace Seg
variable {s : ByteArray} {p q : Nat} {a b l e : List UInt8} {c : UInt8}
theorem app : Seg s p (a ++ b) ↔ Seg s p a /\ Seg s (p + a.length) b := by
 constructor
 · intro h
   refine ⟨fun i hi => ?_, fun i hi => ?_⟩
   · rw [h i (by rw [length_append]; omega), List.getElem?_append_left hi]
   have := h (a.length + i) (by rw [length_append]; omega)
   rw [List.getElem?_append_right (by omega), Nat.add_sub_cancel_left] at this
   rw [Nat.add_assoc]; exact this
 rintro ⟨h1, h2⟩ i hi
 rcases Nat.lt_or_ge i a.length with hlt | hge
 · rw [h1 i hlt, List.getElem?_append_left hlt]
 rw [length_append] at hi
 rw [List.getElem?_append_right hge, <- h2 (i - a.length) (by omega)]
 congr 1; omega
theorem cons : Seg s p (c :: l) ↔ Seg s p [c] /\ Seg s (p + 1) l := app (a := [c])
theorem byte (h : Seg s p l) {i : Nat} (hi : l[i]? = some c) : qAe s (p + i) (c.toNat : Int) := by
 obtain ⟨hlt, _⟩ := List.getElem?_eq_some_iff.1 hi
 have h1 := (h i hlt).trans hi
 obtain ⟨h2, h3⟩ := List.getElem?_eq_some_iff.1 h1
 have hsz : p + i < s.size := by rw [<- qA4]; exact h2
 refine ⟨hsz, ?_⟩
 rw [<- h3]
 rfl
theorem head (h : Seg s p (c :: l)) : qAe s p (c.toNat : Int) := h.byte (i := 0) rfl
theorem size (h : Seg s p l) (h0 : 0 < l.length) : p + l.length <= s.size := by
 have := (h.byte (i := l.length - 1) (List.getElem?_eq_getElem (by omega))).1
 omega
theorem plain (h : Seg s p l) (hl : ∀ c ∈ l, 33 <= c.toNat) : qB7 s p (p + l.length) := fun k h1 h2 => by
 have hb := h.byte (List.getElem?_eq_getElem (show k - p < l.length by omega))
 rw [show p + (k - p) = k by omega] at hb
 have h3 := hl _ (List.getElem_mem (show k - p < l.length by omega))
 exact ⟨_, hb, qP9 (by omega), ws_no (by omega)⟩
theorem whole (h : Seg s p l) (hl : ∀ c ∈ l, 32 <= c.toNat) : Whole s p (p + l.length) := fun k h1 h2 => by
 have hb := h.byte (List.getElem?_eq_getElem (show k - p < l.length by omega))
 rw [show p + (k - p) = k by omega] at hb
 have h3 := hl _ (List.getElem_mem (show k - p < l.length by omega))
 exact ⟨_, hb, qP9 (by omega)⟩
theorem extract (h : Seg s p l) : s.extract p (p + l.length) = mk l := by
 rw [qDj]
 congr 1
 apply List.ext_getElem?
 intro i
 rw [List.getElem?_drop, List.getElem?_take]
 rcases Nat.lt_or_ge i l.length with hlt | hge
 · rw [if_pos (by omega), h i hlt]
 rw [if_neg (by omega), List.getElem?_eq_none hge]
theorem digits {n : Int} (h : Seg s p ((decDigits (Int.toNat n)))) (h0 : 0 <= n) (hn : n < 18446744073709551616) : ∃ F, Digits s p (p + ((decDigits (Int.toNat n))).length) F /\ F (p + ((decDigits (Int.toNat n))).length) = n := by
 obtain ⟨u, rfl⟩ := Int.eq_ofNat_of_zero_le h0
 rw [Int.toNat_natCast] at h ⊢
 refine ⟨fun k => (val ((decDigits u).take (k - p)) : Int), ⟨?_, fun k => by omega, fun k hk => ?_, fun k h1 h2 => ?_⟩, ?_⟩
 · show ((val ((decDigits u).take (p - p)) : Nat) : Int) = 0
   rw [Nat.sub_self]; rfl
 · show ((val ((decDigits u).take (k - p)) : Nat) : Int) < _
   have := qL0 (decDigits u) (k - p)
   rw [qQa] at this
   omega
 · have hlt : k - p < (decDigits u).length := by omega
   have hb := h.byte (List.getElem?_eq_getElem hlt)
   rw [show p + (k - p) = k by omega] at hb
   have hd := qC7 u _ (List.getElem_mem hlt)
   refine ⟨(((decDigits u)[k - p].toNat - 48 : Nat) : Int), ?_, by omega, by omega, ?_⟩
   · rw [show (48 + (((decDigits u)[k - p].toNat - 48 : Nat) : Int)) = ((decDigits u)[k - p].toNat : Int) by omega]
     exact hb
   show ((val ((decDigits u).take (k + 1 - p)) : Nat) : Int) = ((val ((decDigits u).take (k - p)) : Nat) : Int) * 10 + _
   rw [show k + 1 - p = k - p + 1 by omega, List.take_succ_eq_append_getElem hlt, qMr]
   omega
 show ((val ((decDigits u).take (p + (decDigits u).length - p)) : Nat) : Int) = _
 rw [Nat.add_sub_cancel_left, List.take_length, qQa]
theorem lend (h : Seg s q e) (he : e = [13, 10] ∨ e = [10]) : qA5 s q (q + e.length) := by
 rcases he with rfl | rfl
 · exact .inr ⟨h.byte (i := 0) rfl, h.byte (i := 1) rfl, rfl⟩
 exact .inl ⟨h.byte (i := 0) rfl, rfl⟩
theorem stop (h : Seg s q (32 :: c :: l)) (hc : 33 <= c.toNat) : qCl s q (q + 1) :=
 ⟨32, h.byte (i := 0) rfl, .inr ⟨by decide, by decide, rfl, _, h.byte (i := 1) rfl, ws_no hc⟩⟩
theorem stopW (h : Seg s q (32 :: (l ++ a))) (hl : ∀ c ∈ l, 33 <= c.toNat) (h0 : l ≠ []) : qCl s q (q + 1) := by
 match l, h0 with
 | c :: l, _ => exact h.stop (hl c mem_cons_self)
end Seg
theorem qHa {x : ByteArray} (h : qGh x = true) : (∀ c ∈ bs x, 33 <= c.toNat) /\ bs x ≠ [] := by
 unfold qGh at h
 rw [Bool.and_eq_true, all_eq_true] at h
 refine ⟨fun c hc => ?_, fun e => ?_⟩
 · have := h.1 c hc
   unfold qKd at this
   simp at this
   omega
 have := h.2
 rw [show x.data.toList = [] from e] at this
 simp at this
theorem qQb {x : ByteArray} (h : line x = true) : ∀ c ∈ bs x, 32 <= c.toNat /\ c.toNat <= 126 := by
 unfold line at h
 rw [Bool.and_eq_true, all_eq_true] at h
 intro c hc
 have := h.1 c hc
 unfold qLq at this
 simp at this
 omega
theorem qQc {x : ByteArray} (h : qGh x = true) : ∀ c ∈ bs x, 33 <= c.toNat /\ c.toNat <= 126 /\ c ≠ 58 /\ c ≠ 47 := fun c hc => by
 unfold qGh at h
 rw [Bool.and_eq_true, all_eq_true] at h
 have := h.1 c hc
 unfold qKd at this
 simp at this
 refine ⟨by omega, by omega, fun e => ?_, fun e => ?_⟩
 · subst e; simp at this
 subst e; simp at this
theorem qQd {x : ByteArray} {xs : List ByteArray} (h : qDb x xs = true) (hx : xs.all (fun y => (bs y).all (fun c => decide (33 <= c.toNat)) && !(bs y).isEmpty) = true) : (∀ c ∈ bs x, 33 <= c.toNat) /\ bs x ≠ [] := by
 obtain ⟨y, hy, e⟩ := qF0 h
 have := List.all_eq_true.1 hx y hy
 rw [Bool.and_eq_true, all_eq_true] at this
 rw [<- e]
 refine ⟨fun c hc => by simpa using this.1 c hc, fun e0 => by rw [e0] at this; simp at this⟩
theorem qHt {n : Int} : (∀ c ∈ (decDigits (Int.toNat n)), 33 <= c.toNat) /\ (decDigits (Int.toNat n)) ≠ [] := ⟨fun c hc => by have := qIi c hc; omega, qJe _⟩
theorem qCk {n : Int} : (∀ c ∈ (itoa n), 33 <= c.toNat) /\ (itoa n) ≠ [] := by
 unfold itoa
 split
 · refine ⟨fun c hc => ?_, by simp⟩
   rcases List.mem_cons.1 hc with rfl | hc
   · decide
   have := qC7 _ c hc; omega
 exact ⟨fun c hc => by have := qC7 _ c hc; omega, qJe _⟩
theorem qFa (x : ByteArray) : mk (bs x) = x := rfl
theorem inT_of {x : ByteArray} (h : (x.toList == [73, 78]) = true) : qDb x inT = true := by
 unfold qDb inT
 have : x.toList = [73, 78] := by simpa using h
 simp only [List.any_cons, this]
 decide +kernel
end Go.Proofs.YtcepdjlknalmnaaGreatDoor
/- What a line's bytes tell its reader. qB7 laws. -/
namespace Go.Proofs.YtcepdjlknalmnaaGreatDoor
open List (length_append mem_cons_self all_eq_true length_cons)
open Lib (decDigits itoa)
open Go.RowKit
inductive FmtsAt (s : ByteArray) (m : Nat) : Nat -> List ByteArray -> Prop
 | nil : FmtsAt s m m []
 | cons {p m1 p1 : Nat} {x : ByteArray} {xs : List ByteArray} (h1 : p < m1) (hp : qB7 s p m1) (ho : s.extract p m1 = x) (hs1 : qCl s m1 p1) (hr : FmtsAt s m p1 xs) : FmtsAt s m p (x :: xs)
def qI2 (e : List UInt8) : Prop := e = [13, 10] ∨ e = [10]
variable {s : ByteArray} {p : Nat} {e : List UInt8}
theorem qDv {l : List UInt8} (h : l ≠ []) : 0 < l.length := by
 cases l with
 | nil => exact absurd rfl h
 | cons c l => simp
structure ConAt (s : ByteArray) (p r : Nat) (c : Con) (m1 p1 m2 p2 m : Nat) : Prop where
 h1 : p <= m1
 hp1 : qB7 s p m1
 hs1 : qCl s m1 p1
 h2 : p1 <= m2
 hp2 : qB7 s p1 m2
 hs2 : qCl s m2 p2
 h3 : p2 < m
 hp3 : qB7 s p2 m
 hle : qA5 s m r
 hi1 : qDb (s.extract p m1) inT = true
 hi2 : qDb (s.extract p1 m2) qA1 = true
 hx : qBf c = ⟨s.extract p m1, s.extract p1 m2, [⟨s.extract p2 m, [], []⟩]⟩
theorem qQe (l : List Int) : ∀ c ∈ qAx l, 33 <= c.toNat := fun c hc => by
 unfold qAx at hc
 obtain ⟨n, _, hn⟩ := List.mem_flatMap.1 hc
 rcases List.mem_append.1 hn with hn | hn
 · rw [List.mem_singleton.1 hn]; decide
 have := qC7 _ c hn; omega
theorem ip_ge {x : ByteArray} (h : qDb x qA1 = true) : (∀ c ∈ bs x, 33 <= c.toNat) /\ bs x ≠ [] := qQd h (by decide)
theorem in_in {x : ByteArray} (h : qDb x inT = true) : (∀ c ∈ bs x, 33 <= c.toNat) /\ bs x ≠ [] := qQd h (by decide)
theorem con_at {c : Con} (hc : qDh c = true) (h : Seg s p (qD7 c ++ e)) (he : qI2 e) : ∃ m1 p1 m2 p2 m, ConAt s p (p + (qD7 c ++ e).length) c m1 p1 m2 p2 m := by
 obtain ⟨net, addr, adrs⟩ := c
 unfold qDh at hc
 simp only [Bool.and_eq_true] at hc
 obtain ⟨hc1, hc2, hc3⟩ := hc
 match adrs, hc3 with
 | [y], hc3 =>
  simp only [Bool.and_eq_true] at hc3
  have hi1 := inT_of hc1
  have hn := in_in hi1
  have ha := ip_ge hc2
  have hy := qHa hc3.1
  have hb : qD7 ⟨net, addr, [y]⟩ ++ e = bs net ++ (32 :: (bs addr ++ (32 :: ((bs y.addr ++ qAx (y.ttl ++ y.rng)) ++ e)))) := by
   simp [qD7, qKa]
  rw [hb] at h ⊢
  have hw : (∀ c ∈ bs y.addr ++ qAx (y.ttl ++ y.rng), 33 <= c.toNat) := fun c hc => by
   rcases List.mem_append.1 hc with hc | hc
   · exact hy.1 c hc
   exact qQe _ c hc
  have hw0 : bs y.addr ++ qAx (y.ttl ++ y.rng) ≠ [] := fun e => hy.2 (List.append_eq_nil_iff.1 e).1
  obtain ⟨g1, g2⟩ := Seg.app.1 h
  obtain ⟨_, g3⟩ := Seg.cons.1 g2
  obtain ⟨g4, g5⟩ := Seg.app.1 g3
  obtain ⟨_, g6⟩ := Seg.cons.1 g5
  obtain ⟨g7, g8⟩ := Seg.app.1 g6
  refine ⟨_, _, _, _, _, ⟨Nat.le_add_right _ _, g1.plain hn.1, g2.stopW ha.1 ha.2, Nat.le_add_right _ _, g4.plain ha.1, g5.stopW hw hw0, Nat.lt_add_of_pos_right (qDv hw0), g7.plain hw, ?_, ?_, ?_, ?_⟩⟩
  · have := g8.lend he
    simp only [length_append, length_cons] at this ⊢
    rw [show p + (net.data.toList.length + (addr.data.toList.length + (y.addr.data.toList.length + (qAx (y.ttl ++ y.rng)).length + e.length + 1) + 1)) = p + net.data.toList.length + 1 + addr.data.toList.length + 1 + (y.addr.data.toList.length + (qAx (y.ttl ++ y.rng)).length) + e.length by omega]
    exact this
  · rw [g1.extract, qFa]; exact hi1
  · rw [g4.extract, qFa]; exact hc2
  rw [g1.extract, g4.extract, g7.extract, qFa, qFa]; rfl
theorem offs_at (he : qI2 e) : ∀ (os : List Int) (o : Int) (p : Nat), Seg s p ((itoa o) ++ (qBt os ++ e)) -> OffsAt s (p + ((itoa o) ++ qBt os).length) p (o :: os) := by
 intro os
 induction os with
 | nil =>
  intro o p h
  obtain ⟨g1, g2⟩ := Seg.app.1 h
  have hl := Seg.lend (e := e) (s := s) (q := p + ((itoa o)).length) (by simpa [qBt] using g2) he
  have e1 : ((itoa o) ++ qBt []) = (itoa o) := by simp [qBt]
  rw [e1]
  exact .cons (Nat.lt_add_of_pos_right (qDv qCk.2)) (g1.plain qCk.1) g1.extract hl.stops .nil
 | cons o2 os ih =>
  intro o p h
  obtain ⟨g1, g2⟩ := Seg.app.1 h
  have e1 : qBt (o2 :: os) ++ e = 32 :: ((itoa o2) ++ (qBt os ++ e)) := by simp [qBt]
  rw [e1] at g2
  have g3 := ih o2 _ (Seg.cons.1 g2).2
  refine .cons (Nat.lt_add_of_pos_right (qDv qCk.2)) (g1.plain qCk.1) g1.extract (g2.stopW qCk.1 qCk.2) ?_
  have e2 : p + ((itoa o) ++ qBt (o2 :: os)).length = p + ((itoa o)).length + 1 + ((itoa o2) ++ qBt os).length := by
   have : (qBt (o2 :: os)).length = 1 + ((itoa o2) ++ qBt os).length := by simp [qBt]; omega
   rw [length_append, this]; omega
  rw [e2]
  exact g3
def qD8 (zs : List Zon) : List UInt8 := zs.flatMap (fun z => 32 :: ((decDigits (Int.toNat z.time)) ++ (32 :: (itoa z.off))))
theorem zon_body (z : Zon) (zs : List Zon) : qAk [32] ((qBq (z :: zs)).map mk) = (decDigits (Int.toNat z.time)) ++ (32 :: ((itoa z.off) ++ qD8 zs)) := by
 have h : ∀ l : List Zon, ((qBq l).map mk).flatMap (fun y => [32] ++ bs y) = qD8 l := fun l => by
  induction l with
  | nil => rfl
  | cons a l ih =>
   have : qBq (a :: l) = (decDigits (Int.toNat a.time)) :: (itoa a.off) :: qBq l := by simp [qBq]
   rw [this]
   simp only [List.map_cons, List.flatMap_cons, ih]
   simp [qD8, qDe]
 have : qBq (z :: zs) = (decDigits (Int.toNat z.time)) :: (itoa z.off) :: qBq zs := by simp [qBq]
 rw [this]
 simp only [List.map_cons, qAk, List.flatMap_cons, h]
 simp [qDe]
def ZonOk (z : Zon) : Prop := 0 <= z.time /\ z.time < 18446744073709551616
theorem zones_at (he : qI2 e) : ∀ (zs : List Zon) (z : Zon) (p : Nat), (∀ y ∈ z :: zs, ZonOk y) -> Seg s p ((decDigits (Int.toNat z.time)) ++ (32 :: ((itoa z.off) ++ (qD8 zs ++ e)))) -> ZonesAt s (p + ((decDigits (Int.toNat z.time)) ++ (32 :: ((itoa z.off) ++ qD8 zs))).length) p (z :: zs) := by
 intro zs
 induction zs with
 | nil =>
  intro z p hz h
  obtain ⟨g1, g2⟩ := Seg.app.1 h
  obtain ⟨F, hF, hv⟩ := g1.digits (hz z mem_cons_self).1 (hz z mem_cons_self).2
  obtain ⟨_, g3⟩ := Seg.cons.1 g2
  obtain ⟨g4, g5⟩ := Seg.app.1 g3
  have hl := Seg.lend (e := e) (s := s) (by simpa [qD8] using g5) he
  have e1 : p + ((decDigits (Int.toNat z.time)) ++ (32 :: ((itoa z.off) ++ qD8 []))).length = p + ((decDigits (Int.toNat z.time))).length + 1 + ((itoa z.off)).length := by
   simp [qD8]; omega
  rw [e1]
  exact .cons (Nat.le_add_right _ _) hF hv (g2.stopW qCk.1 qCk.2) (Nat.lt_add_of_pos_right (qDv qCk.2)) (g4.plain qCk.1) g4.extract hl.stops .nil
 | cons z2 zs ih =>
  intro z p hz h
  obtain ⟨g1, g2⟩ := Seg.app.1 h
  obtain ⟨F, hF, hv⟩ := g1.digits (hz z mem_cons_self).1 (hz z mem_cons_self).2
  obtain ⟨_, g3⟩ := Seg.cons.1 g2
  obtain ⟨g4, g5⟩ := Seg.app.1 g3
  have e1 : qD8 (z2 :: zs) ++ e = 32 :: ((decDigits (Int.toNat z2.time)) ++ (32 :: ((itoa z2.off) ++ (qD8 zs ++ e)))) := by simp [qD8]
  rw [e1] at g5
  have g6 := ih z2 _ (fun y hy => hz y (List.mem_cons_of_mem _ hy)) (Seg.cons.1 g5).2
  refine .cons (Nat.le_add_right _ _) hF hv (g2.stopW qCk.1 qCk.2) (Nat.lt_add_of_pos_right (qDv qCk.2)) (g4.plain qCk.1) g4.extract (g5.stopW qHt.1 qHt.2) ?_
  have e2 : p + ((decDigits (Int.toNat z.time)) ++ (32 :: ((itoa z.off) ++ qD8 (z2 :: zs)))).length = p + ((decDigits (Int.toNat z.time))).length + 1 + ((itoa z.off)).length + 1 + ((decDigits (Int.toNat z2.time)) ++ (32 :: ((itoa z2.off) ++ qD8 zs))).length := by
   have : (qD8 (z2 :: zs)).length = 1 + ((decDigits (Int.toNat z2.time)) ++ (32 :: ((itoa z2.off) ++ qD8 zs))).length := by simp [qD8]; omega
   rw [length_append, length_cons, length_append, this]; omega
  rw [e2]
  exact g6
theorem fmts_at (he : qI2 e) : ∀ (xs : List ByteArray) (x : ByteArray) (p : Nat), (∀ y ∈ x :: xs, (∀ c ∈ bs y, 33 <= c.toNat) /\ bs y ≠ []) -> Seg s p (qAk [32] (x :: xs) ++ e) -> FmtsAt s (p + (qAk [32] (x :: xs)).length) p (x :: xs) := by
 intro xs
 induction xs with
 | nil =>
  intro x p hx h
  have e1 : qAk [32] [x] = bs x := by simp [qAk]
  rw [e1] at h ⊢
  obtain ⟨g1, g2⟩ := Seg.app.1 h
  have hw := hx x mem_cons_self
  exact .cons (Nat.lt_add_of_pos_right (qDv hw.2)) (g1.plain hw.1) (by rw [g1.extract, qFa]) (g2.lend he).stops .nil
 | cons x2 xs ih =>
  intro x p hx h
  have hw := hx x mem_cons_self
  have hw2 := hx x2 (List.mem_cons_of_mem _ mem_cons_self)
  have e1 : qAk [32] (x :: x2 :: xs) = bs x ++ (32 :: qAk [32] (x2 :: xs)) := by simp [qAk]
  rw [e1, List.append_assoc] at h
  obtain ⟨g1, g2⟩ := Seg.app.1 h
  have g3 := ih x2 _ (fun y hy => hx y (List.mem_cons_of_mem _ hy)) (Seg.cons.1 g2).2
  have e3 : (32 :: qAk [32] (x2 :: xs)) ++ e = 32 :: (bs x2 ++ (xs.flatMap (fun y => [32] ++ bs y) ++ e)) := by simp [qAk]
  rw [e3] at g2
  refine .cons (Nat.lt_add_of_pos_right (qDv hw.2)) (g1.plain hw.1) (by rw [g1.extract, qFa]) (g2.stopW hw2.1 hw2.2) ?_
  rw [e1]
  have e2 : p + (bs x ++ (32 :: qAk [32] (x2 :: xs))).length = p + (bs x).length + 1 + (qAk [32] (x2 :: xs)).length := by
   rw [length_append, length_cons]; omega
  rw [e2]
  exact g3
theorem att_of {a : Att} (h : qMg a = true) : qP6 (mk (qC1 a)) a /\ ∀ c ∈ qC1 a, 32 <= c.toNat /\ c.toNat < 128 := by
 unfold qMg at h
 rw [Bool.and_eq_true] at h
 have hk := qQc h.1
 have hk0 := (qHa h.1).2
 have hk1 : ∀ c ∈ bs a.key, c ≠ 58 := fun c hc => (hk c hc).2.2.1
 by_cases h0 : a.val.size = 0
 · have e1 : qC1 a = bs a.key := by simp [qC1, h0]
   rw [e1]
   refine ⟨.inr ⟨?_, ?_⟩, fun c hc => by have := hk c hc; omega⟩
   · show ¬ pre 58 (bs a.key) < _
     rw [qJx hk1, qAy]; omega
   have hv : a.val = strE := by
    have : bs a.val = [] := List.eq_nil_of_length_eq_zero (by rw [qA4]; exact h0)
    rw [<- qFa a.val, this]; rfl
   rw [qFa, <- hv]
 have e1 : qC1 a = bs a.key ++ (58 :: bs a.val) := by simp [qC1, h0]
 have hv : line a.val = true := by
  have h2 := h.2
  rw [qE5] at h2
  simpa [h0] using h2
 rw [e1]
 refine ⟨.inl ⟨?_, ?_, ?_⟩, fun c hc => ?_⟩
 · show 0 < pre 58 (bs a.key ++ (58 :: bs a.val))
   rw [qIh hk1]; exact qDv hk0
 · show pre 58 (bs a.key ++ (58 :: bs a.val)) < _
   rw [qIh hk1, qAy, length_append, length_cons]; omega
 · show a = ⟨(mk _).extract 0 (pre 58 (bs a.key ++ (58 :: bs a.val))), (mk _).extract (pre 58 (bs a.key ++ (58 :: bs a.val)) + 1) (mk _).size⟩
   rw [qIh hk1, qDj, qDj, qAy]
   have e2 : ((bs (mk (bs a.key ++ (58 :: bs a.val)))).take (bs a.key).length).drop 0 = bs a.key := by
    rw [show bs (mk (bs a.key ++ (58 :: bs a.val))) = bs a.key ++ (58 :: bs a.val) from rfl, List.take_left' rfl, List.drop_zero]
   have e3 : ((bs (mk (bs a.key ++ (58 :: bs a.val)))).take (bs a.key ++ (58 :: bs a.val)).length).drop ((bs a.key).length + 1) = bs a.val := by
    rw [show bs (mk (bs a.key ++ (58 :: bs a.val))) = bs a.key ++ (58 :: bs a.val) from rfl, List.take_length]
    rw [show bs a.key ++ (58 :: bs a.val) = (bs a.key ++ [58]) ++ bs a.val by simp]
    exact List.drop_left' (by simp)
   rw [e2, e3, qFa, qFa]
 rcases List.mem_append.1 hc with hc | hc
 · have := hk c hc; omega
 rcases List.mem_cons.1 hc with rfl | hc
 · decide
 have := qQb hv c hc; omega
theorem bw_ge {b : Bwd} (h : bwB b = true) : ∀ c ∈ qF8 b, 32 <= c.toNat := fun c hc => by
 rw [qP5] at hc
 rcases List.mem_append.1 hc with hc | hc
 · unfold qN4 at hc
   rcases List.mem_append.1 hc with hc | hc
   · split at hc
     · simp only [List.mem_cons, List.not_mem_nil, or_false] at hc
       rcases hc with rfl | rfl <;> decide
     simp at hc
   unfold bwB at h
   simp only [Bool.and_eq_true, Bool.or_eq_true] at h
   rcases h.1 with h1 | h1
   · have := (qQd h1 (by decide)).1 c hc; omega
   have := (qHa h1.2).1 c hc; omega
 rcases List.mem_cons.1 hc with rfl | hc
 · decide
 have := qIi c hc; omega
end Go.Proofs.YtcepdjlknalmnaaGreatDoor

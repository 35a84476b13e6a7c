/- Where a text tells something: segments. Plain laws. -/
import Derived.Test.YtcepdjlknalmnaaGreatDoorRepD
import Derived.Test.YtcepdjlknalmnaaGreatDoorStepG
import Derived.Deep.RegionLaw
namespace Go.Proofs.YtcepdjlknalmnaaGreatDoor
open Go.RowKit
set_option linter.unusedSimpArgs false
set_option linter.unusedVariables false
attribute [local go_sem ↓] Go.wp_at_zero Go.wp_at_succ
inductive OffsAt (s : ByteArray) (m : Nat) : Nat → List Int → Prop
 | nil : OffsAt s m m []
 | cons {p m1 p1 : Nat} {o : Int} {os : List Int} (h1 : p < m1) (hp : Plain s p m1) (ho : s.extract p m1 = mk ((Lib.itoa o))) (hs1 : Stops s m1 p1) (hr : OffsAt s m p1 os) : OffsAt s m p (o :: os)
end Go.Proofs.YtcepdjlknalmnaaGreatDoor
namespace Go.Proofs.YtcepdjlknalmnaaGreatDoor
open Go.RowKit
set_option linter.unusedSimpArgs false
set_option linter.unusedVariables false
attribute [local go_sem ↓] Go.wp_at_zero Go.wp_at_succ
end Go.Proofs.YtcepdjlknalmnaaGreatDoor
namespace Go.Proofs.YtcepdjlknalmnaaGreatDoor
open Go.RowKit
set_option linter.unusedSimpArgs false
set_option linter.unusedVariables false
def Seg (s : ByteArray) (p : Nat) (l : List UInt8) : Prop := ∀ i, i < l.length → (bs s)[p + i]? = l[i]?
theorem nl_no {n : Nat} (h : 14 ≤ n) : isNl (n : Int) = false := by
 unfold isNl
 simp only [Bool.or_eq_false_iff, beq_eq_false_iff_ne]
 exact ⟨by omega, by omega⟩
theorem ws_no {n : Nat} (h : 33 ≤ n) : isWs (n : Int) = false := by
 unfold isWs
 simp only [Bool.or_eq_false_iff, beq_eq_false_iff_ne]
 exact ⟨by omega, by omega⟩
def val (l : List UInt8) : Nat := l.foldl (fun a c => a * 10 + (c.toNat - 48)) 0
theorem val_snoc (l : List UInt8) (c : UInt8) : val (l ++ [c]) = val l * 10 + (c.toNat - 48) := by simp [val, List.foldl_append]
theorem val_dec : ∀ u : Nat, val (Lib.decDigits u) = u := by
 intro u
 induction u using Nat.strongRecOn with
 | ind u ih =>
  by_cases h : u < 10
  · rw [Lib.decDigits_one h]
    show 0 * 10 + ((UInt8.ofNat (48 + u)).toNat - 48) = u
    rw [u8_of h]; omega
  · rw [dec_step h, Lib.decDigits_one (i := u % 10) (by omega), val_snoc, ih (u / 10) (by omega), u8_of (by omega)]
    omega
theorem fold_le (b : List UInt8) : ∀ acc : Nat, acc ≤ b.foldl (fun a c => a * 10 + (c.toNat - 48)) acc := by
 induction b with
 | nil => intro acc; exact Nat.le_refl _
 | cons c b ih => intro acc; exact Nat.le_trans (show acc ≤ acc * 10 + (c.toNat - 48) by omega) (ih _)
theorem val_take_le (l : List UInt8) (k : Nat) : val (l.take k) ≤ val l := by
 conv => rhs; rw [← List.take_append_drop k l]
 unfold val
 rw [List.foldl_append]
 exact fold_le _ _
namespace Seg
variable {s : ByteArray} {p q : Nat} {a b l e : List UInt8} {c : UInt8}
theorem app : Seg s p (a ++ b) ↔ Seg s p a ∧ Seg s (p + a.length) b := by
 constructor
 · intro h
   refine ⟨fun i hi => ?_, fun i hi => ?_⟩
   · rw [h i (by rw [List.length_append]; omega), List.getElem?_append_left hi]
   · have := h (a.length + i) (by rw [List.length_append]; omega)
     rw [List.getElem?_append_right (by omega), Nat.add_sub_cancel_left] at this
     rw [Nat.add_assoc]; exact this
 · rintro ⟨h1, h2⟩ i hi
   rcases Nat.lt_or_ge i a.length with hlt | hge
   · rw [h1 i hlt, List.getElem?_append_left hlt]
   · rw [List.length_append] at hi
     rw [List.getElem?_append_right hge, ← h2 (i - a.length) (by omega)]
     congr 1; omega
theorem cons : Seg s p (c :: l) ↔ Seg s p [c] ∧ Seg s (p + 1) l := app (a := [c])
theorem byte (h : Seg s p l) {i : Nat} (hi : l[i]? = some c) : ByteAt s (p + i) (c.toNat : Int) := by
 obtain ⟨hlt, _⟩ := List.getElem?_eq_some_iff.1 hi
 have h1 := (h i hlt).trans hi
 obtain ⟨h2, h3⟩ := List.getElem?_eq_some_iff.1 h1
 have hsz : p + i < s.size := by rw [← len_list]; exact h2
 refine ⟨hsz, ?_⟩
 rw [← h3]
 rfl
theorem head (h : Seg s p (c :: l)) : ByteAt s p (c.toNat : Int) := h.byte (i := 0) rfl
theorem size (h : Seg s p l) (h0 : 0 < l.length) : p + l.length ≤ s.size := by
 have := (h.byte (i := l.length - 1) (List.getElem?_eq_getElem (by omega))).1
 omega
theorem plain (h : Seg s p l) (hl : ∀ c ∈ l, 33 ≤ c.toNat) : Plain s p (p + l.length) := fun k h1 h2 => by
 have hb := h.byte (List.getElem?_eq_getElem (show k - p < l.length by omega))
 rw [show p + (k - p) = k by omega] at hb
 have h3 := hl _ (List.getElem_mem (show k - p < l.length by omega))
 exact ⟨_, hb, nl_no (by omega), ws_no (by omega)⟩
theorem whole (h : Seg s p l) (hl : ∀ c ∈ l, 32 ≤ c.toNat) : Whole s p (p + l.length) := fun k h1 h2 => by
 have hb := h.byte (List.getElem?_eq_getElem (show k - p < l.length by omega))
 rw [show p + (k - p) = k by omega] at hb
 have h3 := hl _ (List.getElem_mem (show k - p < l.length by omega))
 exact ⟨_, hb, nl_no (by omega)⟩
theorem extract (h : Seg s p l) : s.extract p (p + l.length) = mk l := by
 rw [extract_mk]
 congr 1
 apply List.ext_getElem?
 intro i
 rw [List.getElem?_drop, List.getElem?_take]
 rcases Nat.lt_or_ge i l.length with hlt | hge
 · rw [if_pos (by omega), h i hlt]
 · rw [if_neg (by omega), List.getElem?_eq_none hge]
theorem digits {n : Int} (h : Seg s p ((Lib.decDigits (Int.toNat n)))) (h0 : 0 ≤ n) (hn : n < 18446744073709551616) : ∃ F, Digits s p (p + ((Lib.decDigits (Int.toNat n))).length) F ∧ F (p + ((Lib.decDigits (Int.toNat n))).length) = n := by
 obtain ⟨u, rfl⟩ := Int.eq_ofNat_of_zero_le h0
 rw [Int.toNat_natCast] at h ⊢
 refine ⟨fun k => (val ((Lib.decDigits u).take (k - p)) : Int), ⟨?_, fun k => by omega, fun k hk => ?_, fun k h1 h2 => ?_⟩, ?_⟩
 · show ((val ((Lib.decDigits u).take (p - p)) : Nat) : Int) = 0
   rw [Nat.sub_self]; rfl
 · show ((val ((Lib.decDigits u).take (k - p)) : Nat) : Int) < _
   have := val_take_le (Lib.decDigits u) (k - p)
   rw [val_dec] at this
   omega
 · have hlt : k - p < (Lib.decDigits u).length := by omega
   have hb := h.byte (List.getElem?_eq_getElem hlt)
   rw [show p + (k - p) = k by omega] at hb
   have hd := dec_digit u _ (List.getElem_mem hlt)
   refine ⟨(((Lib.decDigits u)[k - p].toNat - 48 : Nat) : Int), ?_, by omega, by omega, ?_⟩
   · rw [show (48 + (((Lib.decDigits u)[k - p].toNat - 48 : Nat) : Int)) = ((Lib.decDigits u)[k - p].toNat : Int) by omega]
     exact hb
   · show ((val ((Lib.decDigits u).take (k + 1 - p)) : Nat) : Int) = ((val ((Lib.decDigits u).take (k - p)) : Nat) : Int) * 10 + _
     rw [show k + 1 - p = k - p + 1 by omega, List.take_succ_eq_append_getElem hlt, val_snoc]
     omega
 · show ((val ((Lib.decDigits u).take (p + (Lib.decDigits u).length - p)) : Nat) : Int) = _
   rw [Nat.add_sub_cancel_left, List.take_length, val_dec]
theorem stop (h : Seg s q (32 :: c :: l)) (hc : 33 ≤ c.toNat) : Stops s q (q + 1) :=
 ⟨32, h.byte (i := 0) rfl, .inr ⟨by decide, by decide, rfl, _, h.byte (i := 1) rfl, ws_no hc⟩⟩
end Seg
theorem inT_of {x : ByteArray} (h : (x.toList == [73, 78]) = true) : isIn x inT = true := by
 unfold isIn inT
 have : x.toList = [73, 78] := by simpa using h
 simp only [List.any_cons, this]
 decide +kernel
end Go.Proofs.YtcepdjlknalmnaaGreatDoor
/- What a line's bytes tell its reader. Plain laws. -/
namespace Go.Proofs.YtcepdjlknalmnaaGreatDoor
open Go.RowKit
set_option linter.unusedSimpArgs false
set_option linter.unusedVariables false
inductive FmtsAt (s : ByteArray) (m : Nat) : Nat → List ByteArray → Prop
 | nil : FmtsAt s m m []
 | cons {p m1 p1 : Nat} {x : ByteArray} {xs : List ByteArray} (h1 : p < m1) (hp : Plain s p m1) (ho : s.extract p m1 = x) (hs1 : Stops s m1 p1) (hr : FmtsAt s m p1 xs) : FmtsAt s m p (x :: xs)
def isEnd (e : List UInt8) : Prop := e = [13, 10] ∨ e = [10]
variable {s : ByteArray} {p : Nat} {e : List UInt8}
structure ConAt (s : ByteArray) (p r : Nat) (c : Con) (m1 p1 m2 p2 m : Nat) : Prop where
 h1 : p ≤ m1
 hp1 : Plain s p m1
 hs1 : Stops s m1 p1
 h2 : p1 ≤ m2
 hp2 : Plain s p1 m2
 hs2 : Stops s m2 p2
 h3 : p2 < m
 hp3 : Plain s p2 m
 hle : LineEnd s m r
 hi1 : isIn (s.extract p m1) inT = true
 hi2 : isIn (s.extract p1 m2) ipTypes = true
 hx : flatCon c = ⟨s.extract p m1, s.extract p1 m2, [⟨s.extract p2 m, [], []⟩]⟩
end Go.Proofs.YtcepdjlknalmnaaGreatDoor

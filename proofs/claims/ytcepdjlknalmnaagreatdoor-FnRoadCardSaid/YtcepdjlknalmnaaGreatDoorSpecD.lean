/- Laws of this claim. -/
import Derived.Test.YtcepdjlknalmnaaGreatDoorFits
import Derived.Lib.Strings
set_option linter.unusedSimpArgs false
set_option linter.unusedVariables false
namespace Go.Proofs.YtcepdjlknalmnaaGreatDoor
open Tryz
open Lib (hid)
open Go.RowKit
theorem qA4 (s : ByteArray) : s.data.toList.length = s.size := by simp only [Array.length_toList]; rfl
theorem qDy {s : ByteArray} {k : Nat} (h : k < s.size) (h' : k < s.data.toList.length) : s.data.toList[k] = s[k] := Array.getElem_toList _
theorem qI8 {s : ByteArray} {f : UInt8 -> Bool} {k : Nat} (h : k < s.size) (ha : (s.data.toList.take k).all f = true) : (s.data.toList.take (k + 1)).all f = f s[k] := by
 rw [qBm (by rw [qA4]; exact h) ha, qDy h]
theorem qH5 {s : ByteArray} {f : UInt8 -> Bool} {k : Nat} (h : k < s.size) (hf : f s[k] = false) : s.data.toList.all f = false :=
 qA6 (k := k) (by rw [qA4]; exact h) (by rw [qDy h]; exact hf)
theorem qKc {s : ByteArray} {f : UInt8 -> Bool} {k : Nat} (h : ¬ k < s.size) (ha : (s.data.toList.take k).all f = true) : s.data.toList.all f = true := by
 rw [List.take_of_length_le (by rw [qA4]; omega)] at ha
 exact ha
def qKd (c : UInt8) : Bool := !(decide ((c.toNat : Int) <= 32) || decide (126 < (c.toNat : Int)) || (c.toNat : Int) == 47 || (c.toNat : Int) == 58)
def qGh (s : ByteArray) : Bool := s.data.toList.all qKd && !s.data.toList.isEmpty
theorem qB4 (s : ByteArray) (w : World) (hs : qAb s) :
 Calls prog 38 #[.string s] w fun e w' => e = .returned (.bool (qGh s)) /\ w' = w := by
 have hm : s.size <= 1152921504606846976 := hs
 clear hs
 go_enter func38, ntmps38
 go_wp2
 go_loop [6] (fun i => ∃ k : Nat, k <= s.size /\ i = .int .i64 k /\ Hid ((s.data.toList.take k).all qKd = true)) (fun i => s.size - (intOf i).toNat)
 case atStart => exact ⟨0, Nat.zero_le _, rfl, hid (by simp)⟩
 obtain ⟨k, hk, rfl, hall⟩ := hrel
 by_cases hlt : k < s.size
 · have HT := hid (qI8 hlt hall.out)
   have HN := hid (qH5 (f := qKd) hlt)
   by_cases hb : qKd (s[k]'hlt) = true
   · have HB := hid hb
     simp only [qKd, Bool.not_eq_true', Bool.or_eq_false_iff, decide_eq_false_iff_not] at hb
     obtain ⟨⟨⟨h1, h2⟩, h3⟩, h4⟩ := hb
     go_wp2
     exact ⟨⟨k + 1, by omega, by go_num, hid (by rw [HT.out, HB.out])⟩, by simp [intOf]; omega⟩
   have HF : Hid (qGh s = false) := hid (by unfold qGh; rw [HN.out (by simpa using hb)]; rfl)
   have hb' : ((s[k]'hlt).toNat : Int) <= 32 ∨ 126 < ((s[k]'hlt).toNat : Int) ∨ (((s[k]'hlt).toNat : Int) = 47) ∨ (((s[k]'hlt).toNat : Int) = 58) := by
    simp only [qKd, Bool.not_eq_true', Bool.or_eq_false_iff, decide_eq_false_iff_not, beq_eq_false_iff_ne] at hb
    omega
   clear hb HT HN
   by_cases h1 : ((s[k]'hlt).toNat : Int) <= 32
   · go_wp2
     go_ret
     exact ⟨qAa HF.out.symm, rfl⟩
   by_cases h2 : 126 < ((s[k]'hlt).toNat : Int)
   · go_wp2
     go_ret
     exact ⟨qAa HF.out.symm, rfl⟩
   by_cases h3 : ((s[k]'hlt).toNat : Int) = 47
   · have h3' : (((s[k]'hlt).toNat : Int) == 47) = true := by simp [h3]
     clear h3 hb'
     go_wp2
     go_ret
     exact ⟨qAa HF.out.symm, rfl⟩
   have h3' : (((s[k]'hlt).toNat : Int) == 47) = false := by simp [h3]
   have h4' : (((s[k]'hlt).toNat : Int) == 58) = true := by simp; omega
   clear h3 hb'
   go_wp2
   go_ret
   exact ⟨qAa HF.out.symm, rfl⟩
 have HA := hid (qKc hlt hall.out)
 go_wp2
 go_ret
 exact ⟨qAa (by unfold qGh; rw [HA.out, ByteArray.toList_eq]; rfl), rfl⟩
def qLq (c : UInt8) : Bool := !(decide ((c.toNat : Int) < 32) || decide (126 < (c.toNat : Int)))
def ends (l : List UInt8) : Bool := !l.isEmpty && (l.headD 32 != 32 && l.getLastD 32 != 32)
def line (s : ByteArray) : Bool := s.data.toList.all qLq && ends s.data.toList
theorem qFn (s : ByteArray) (w : World) (hs : qAb s) :
 Calls prog 19 #[.string s] w fun e w' => e = .returned (.bool (line s)) /\ w' = w := by
 have hm : s.size <= 1152921504606846976 := hs
 clear hs
 go_enter func19, ntmps19
 go_wp2
 go_loop [6] (fun i => ∃ k : Nat, k <= s.size /\ i = .int .i64 k /\ Hid ((s.data.toList.take k).all qLq = true)) (fun i => s.size - (intOf i).toNat)
 case atStart => exact ⟨0, Nat.zero_le _, rfl, hid (by simp)⟩
 obtain ⟨k, hk, rfl, hall⟩ := hrel
 by_cases hlt : k < s.size
 · have HT := hid (qI8 hlt hall.out)
   have HN := hid (qH5 (f := qLq) hlt)
   by_cases hb : qLq (s[k]'hlt) = true
   · have HB := hid hb
     simp only [qLq, Bool.not_eq_true', Bool.or_eq_false_iff, decide_eq_false_iff_not] at hb
     obtain ⟨h1, h2⟩ := hb
     go_wp2
     exact ⟨⟨k + 1, by omega, by go_num, hid (by rw [HT.out, HB.out])⟩, by simp [intOf]; omega⟩
   have HF : Hid (line s = false) := hid (by unfold line; rw [HN.out (by simpa using hb)]; rfl)
   have hb' : ((s[k]'hlt).toNat : Int) < 32 ∨ 126 < ((s[k]'hlt).toNat : Int) := by
    simp only [qLq, Bool.not_eq_true', Bool.or_eq_false_iff, decide_eq_false_iff_not] at hb
    omega
   clear hb HT HN
   by_cases h1 : ((s[k]'hlt).toNat : Int) < 32
   · go_wp2
     go_ret
     exact ⟨qAa HF.out.symm, rfl⟩
   go_wp2
   go_ret
   exact ⟨qAa HF.out.symm, rfl⟩
 have HA := hid (qKc hlt hall.out)
 clear hall
 by_cases h0 : s.size = 0
 · have he : s.toList.isEmpty = true := by rw [ByteArray.toList_eq, List.isEmpty_iff, <- List.length_eq_zero_iff, qA4]; exact h0
   have HE : Hid (ends s.data.toList = false) := hid (by unfold ends; rw [<- ByteArray.toList_eq, he]; rfl)
   clear h0
   go_wp2
   go_ret
   exact ⟨qAa (by unfold line; rw [HA.out, HE.out]; rfl), rfl⟩
 have h1 : 0 < s.size := by omega
 have he : s.toList.isEmpty = false := by rw [ByteArray.toList_eq]; cases hd : s.data.toList with
  | nil => have := qA4 s; rw [hd] at this; simp at this; omega
  | cons => rfl
 have h1i : (0 : Int) < (s.size : Int) := by omega
 have h2i : (0 : Int) <= (s.size : Int) - 1 := by omega
 have h3i : (s.size : Int) - 1 < (s.size : Int) := by omega
 have HE : Hid (ends s.data.toList = ((s[0]'h1).toNat != 32 && (s[s.size - 1]'(by omega)).toNat != 32)) := hid (by
  have hn : s.data.toList ≠ [] := by intro e; have := qA4 s; rw [e] at this; simp at this; omega
  unfold ends
  rw [<- ByteArray.toList_eq, he, ByteArray.toList_eq, List.headD_eq_head?_getD, List.getLastD_eq_getLast?, List.head?_eq_getElem?, List.getLast?_eq_getElem?, List.getElem?_eq_getElem (by rw [qA4]; omega), List.getElem?_eq_getElem (by rw [qA4]; omega)]
  simp only [Option.getD_some, qA4, qDy h1, qDy (show s.size - 1 < s.size by omega), Bool.not_false, Bool.true_and]
  congr 1
  all_goals
   rw [Bool.eq_iff_iff]
   simp [<- UInt8.toNat_inj])
 clear h0
 by_cases hz : (s[0]'h1).toNat = 32
 · have hz1 : (((s[0]'h1).toNat : Int) != 32) = false := by simp [hz]
   have HF : Hid (line s = false) := hid (by unfold line; rw [HE.out]; simp [hz])
   clear hz
   go_wp2
   go_ret
   exact ⟨qAa HF.out.symm, rfl⟩
 have hz1 : (((s[0]'h1).toNat : Int) != 32) = true := by simp; omega
 have HF : Hid (line s = ((s[s.size - 1]'(by omega)).toNat != 32)) := hid (by unfold line; rw [HA.out, HE.out]; simp [hz])
 clear hz
 go_wp2
 go_ret
 exact ⟨qAa (by rw [HF.out, Bool.eq_iff_iff]; simp; omega), rfl⟩
def qDb (s : ByteArray) (xs : List ByteArray) : Bool := xs.any (fun x => x.toList == s.toList)
theorem qMe {α : Type} {xs : List α} {f : α -> Bool} {k : Nat} (h : k < xs.length) (ha : (xs.take k).any f = false) : (xs.take (k + 1)).any f = f xs[k] := by
 rw [List.take_succ_eq_append_getElem h, List.any_append, ha]
 simp
theorem qMf {α : Type} {xs : List α} {f : α -> Bool} {k : Nat} (h : k < xs.length) (hf : f xs[k] = true) : xs.any f = true := by
 rw [List.any_eq_true]
 exact ⟨_, List.getElem_mem h, hf⟩
theorem qB1 (s : ByteArray) (xs : List ByteArray) (v : Value) (w : World) (h : qAd.Sl w xs v) :
 Calls prog 39 #[.string s, v] w fun e w' => e = .returned (.bool (qDb s xs)) /\ w' = w := by
 obtain ⟨hm, h⟩ := h
 rcases h with ⟨rfl, A, c, rfl, _⟩ | ⟨hp, b, o, c, rfl, hc, ha⟩
 · go_enter func39, ntmps39
   go_wp2
   refine wp_loop_rounds 1 ?_
   rw [rounds_succ]
   go_wp2
   go_ret
   exact ⟨qAa rfl, rfl⟩
 go_enter func39, ntmps39
 go_wp2
 go_loop [9] (fun i => ∃ k : Nat, k <= xs.length /\ i = .int .i64 k /\ Hid ((xs.take k).any (fun x => x.toList == s.toList) = false)) (fun i => xs.length - (intOf i).toNat)
 case atStart => exact ⟨0, Nat.zero_le _, rfl, hid (by simp)⟩
 obtain ⟨k, hk, rfl, hall⟩ := hrel
 by_cases hlt : k < xs.length
 · obtain ⟨cs, ⟨rfl, _⟩, hx⟩ := ha k _ (List.getElem?_eq_getElem hlt)
   have hx := hx 0 _ rfl
   simp only [qAd, Ty.flat, Nat.mul_one, Nat.add_zero] at hx
   have HT := hid (qMe hlt hall.out)
   have HN := hid (qMf (f := fun x : ByteArray => x.toList == s.toList) hlt)
   go_wp2
   · go_ret
     exact ⟨qAa (by unfold qDb; rw [HN.out (by assumption)]), rfl⟩
   exact ⟨⟨k + 1, by omega, by go_num, hid (by rw [HT.out]; assumption)⟩, by simp [intOf]; omega⟩
 go_wp2
 go_ret
 exact ⟨qAa (by unfold qDb; rw [<- hall.out, List.take_of_length_le (by omega)]), rfl⟩
def one (xs : List ByteArray) : Bool := match xs with
 | [] => true
 | [x] => line x
 | _ => false
theorem qE3 (xs : List ByteArray) (v : Value) (w : World) (h : qAd.Sl w xs v) :
 Calls prog 42 #[v] w fun e w' => e = .returned (.bool (one xs)) /\ w' = w := by
 obtain ⟨hm, h⟩ := h
 rcases h with ⟨rfl, A, c, rfl, _⟩ | ⟨hp, b, o, c, rfl, hc, ha⟩
 · go_enter func42, ntmps42
   go_wp2
   go_ret
   exact ⟨qAa rfl, rfl⟩
 match xs, hp with
 | [x], _ =>
  obtain ⟨cs, ⟨rfl, hx0⟩, hx⟩ := ha 0 x rfl
  have hx := hx 0 _ rfl
  simp only [qAd, Ty.flat, Nat.mul_one, Nat.add_zero, Nat.zero_mul] at hx
  simp only [List.length_cons, List.length_nil, Nat.zero_add]
  go_enter func42, ntmps42
  go_wp2_with (go_at_call 19; refine (qFn x _ hx0).mono ?_; rintro e w1 ⟨rfl, rfl⟩)
  go_ret
  exact ⟨qAa rfl, rfl⟩
 | x :: y :: l, _ =>
  have h1 : (((x :: y :: l).length : Int) == 0) = false := by simp; omega
  have h2 : (((x :: y :: l).length : Int) == 1) = false := by simp; omega
  obtain ⟨n, hn⟩ : ∃ n, (x :: y :: l).length = n := ⟨_, rfl⟩
  rw [hn] at h1 h2 ⊢
  clear hn
  go_enter func42, ntmps42
  go_wp2
  go_ret
  exact ⟨qAa rfl, rfl⟩
end Go.Proofs.YtcepdjlknalmnaaGreatDoor
/- What the reference's tests of parts answer: attributes, bandwidths, connections, times, media. -/
namespace Go.Proofs.YtcepdjlknalmnaaGreatDoor
open Tryz
open Lib (hid)
open Go.RowKit
def qMg (a : Att) : Bool := qGh a.key && (a.val.toList.isEmpty || line a.val)
def qEa (xs : List Att) : Bool := xs.all qMg && decide (xs.length <= 20)
theorem qFo (xs : List Att) (v : Value) (w : World) (h : qBy.Sl w xs v) :
 Calls prog 45 #[v] w fun e w' => e = .returned (.bool (qEa xs)) /\ Nw w w' := by
 obtain ⟨hm, h⟩ := h
 rcases h with ⟨rfl, A, c, rfl, _⟩ | ⟨hp, b, o, c, rfl, hc, ha⟩
 · go_enter func45, ntmps45
   go_wp2
   refine wp_loop_rounds 1 ?_
   rw [rounds_succ]
   go_wp2
   go_ret
   exact ⟨qAa rfl, Nw.refl _⟩
 go_enter func45, ntmps45
 go_wp2
 go_loopw [7] (fun i wr => ∃ k : Nat, k <= xs.length /\ i = .int .i64 k /\ Hid ((xs.take k).all qMg = true) /\ Nw w wr) (fun i _ => xs.length - (intOf i).toNat)
 case atStart => exact ⟨0, Nat.zero_le _, rfl, hid (by simp), Nw.refl _⟩
 obtain ⟨k, hk, rfl, hall, hnw⟩ := hrel
 by_cases hlt : k < xs.length
 · obtain ⟨cs, ⟨rfl, hw1, hw2⟩, hx⟩ := Ty.At_loc hnw.block ha k _ (List.getElem?_eq_getElem hlt)
   have c0 := hx 0 _ rfl
   have c1 := hx 1 _ rfl
   simp only [qBy, Ty.flat, Nat.add_zero] at c0 c1
   have HT := hid (qBm hlt hall.out)
   have HN := hid (qA6 (f := qMg) hlt)
   clear hx
   cases h1 : qGh xs[k].key
   · have HF : Hid (qEa xs = false) := hid (by unfold qEa; rw [HN.out (by unfold qMg; rw [h1]; rfl)]; rfl)
     go_wp2_with (go_at_call 38; refine (qB4 xs[k].key _ hw1).mono ?_; rintro e w1 ⟨rfl, rfl⟩)
     go_ret
     exact ⟨qAa HF.out.symm, hnw.alloc _⟩
   cases h2 : xs[k].val.toList.isEmpty
   · cases h3 : line xs[k].val
     · have HF : Hid (qEa xs = false) := hid (by unfold qEa; rw [HN.out (by unfold qMg; rw [h1, h2, h3]; rfl)]; rfl)
       go_wp2_with (first | (go_at_call 38; refine (qB4 xs[k].key _ hw1).mono ?_; rintro e w1 ⟨rfl, rfl⟩) | (go_at_call 19; refine (qFn xs[k].val _ hw2).mono ?_; rintro e w1 ⟨rfl, rfl⟩))
       go_ret
       exact ⟨qAa HF.out.symm, hnw.alloc _⟩
     have HB : Hid (qMg xs[k] = true) := hid (by unfold qMg; rw [h1, h2, h3]; rfl)
     go_wp2_with (first | (go_at_call 38; refine (qB4 xs[k].key _ hw1).mono ?_; rintro e w1 ⟨rfl, rfl⟩) | (go_at_call 19; refine (qFn xs[k].val _ hw2).mono ?_; rintro e w1 ⟨rfl, rfl⟩))
     exact ⟨⟨k + 1, by omega, by go_num, hid (by rw [HT.out, HB.out]), hnw.alloc _⟩, by simp [intOf]; omega⟩
   have HB : Hid (qMg xs[k] = true) := hid (by unfold qMg; rw [h1, h2]; rfl)
   go_wp2_with (first | (go_at_call 38; refine (qB4 xs[k].key _ hw1).mono ?_; rintro e w1 ⟨rfl, rfl⟩) | (go_at_call 19; refine (qFn xs[k].val _ hw2).mono ?_; rintro e w1 ⟨rfl, rfl⟩))
   exact ⟨⟨k + 1, by omega, by go_num, hid (by rw [HT.out, HB.out]), hnw.alloc _⟩, by simp [intOf]; omega⟩
 have HF : Hid (qEa xs = decide ((xs.length : Int) <= 20)) := hid (by
  rw [List.take_of_length_le (by omega)] at hall
  unfold qEa; rw [hall.out, Bool.true_and, Bool.eq_iff_iff]; simp; omega)
 go_wp2
 go_ret
 exact ⟨qAa HF.out.symm, hnw⟩
theorem qH6 (W : World) (xs : List ByteArray) (e : TypeId) (hw : ∀ x ∈ xs, qAb x) (hn : xs.length <= 1000) (hp : 0 < xs.length) : qAd.Sl (W.alloc (.cells (xs.map Value.string).toArray e)) xs (.slice (some ⟨W.heap.size, 0, none⟩) xs.length xs.length) := by
 refine ⟨by omega, .inr ⟨hp, _, _, _, rfl, Nat.le_refl _, fun k x hx => ⟨_, ⟨rfl, hw x (List.mem_of_getElem? hx)⟩, fun j u hu => ?_⟩⟩⟩
 have hj : j = 0 := by
  have := (List.getElem?_eq_some_iff.1 hu).1
  simp at this; omega
 subst hj
 have h2 := World.news_of_block (cs := (xs.map Value.string).toArray) (t := e) (fr := (0, 0)) (heap_alloc_new W _) k u (by simpa [hx] using hu)
 rw [qE1] at h2
 simpa [qAd, Ty.flat] using h2
def qCt : List ByteArray := [⟨#[67, 84]⟩, ⟨#[65, 83]⟩, ⟨#[84, 73, 65, 83]⟩, ⟨#[82, 83]⟩, ⟨#[82, 82]⟩]
def bwB (b : Bwd) : Bool := (qDb b.ty qCt || (b.x && qGh b.ty)) && decide (b.n < 1125899906842624)
def qF7 (xs : List Bwd) : Bool := xs.all bwB && decide (xs.length <= 10)
theorem qCi {l : List ByteArray} (h : l.all (fun x => decide (x.size <= 1000)) = true) : ∀ x ∈ l, qAb x := fun x hx => by
 have := List.all_eq_true.1 h x hx
 have h1 : x.size <= 1000 := by simpa using this
 show x.size <= 1152921504606846976
 omega
theorem qFp (xs : List Bwd) (v : Value) (w : World) (h : qBx.Sl w xs v) :
 Calls prog 44 #[v] w fun e w' => e = .returned (.bool (qF7 xs)) /\ Nw w w' := by
 obtain ⟨hm, h⟩ := h
 rcases h with ⟨rfl, A, c, rfl, _⟩ | ⟨hp, b, o, c, rfl, hc, ha⟩
 · go_enter func44, ntmps44
   go_wp2
   refine wp_loop_rounds 1 ?_
   rw [rounds_succ]
   go_wp2
   go_ret
   exact ⟨qAa rfl, Nw.refl _⟩
 go_enter func44, ntmps44
 go_wp2
 go_loopw [7] (fun i wr => ∃ k : Nat, k <= xs.length /\ i = .int .i64 k /\ Hid ((xs.take k).all bwB = true) /\ Nw w wr) (fun i _ => xs.length - (intOf i).toNat)
 case atStart => exact ⟨0, Nat.zero_le _, rfl, hid (by simp), Nw.refl _⟩
 obtain ⟨k, hk, rfl, hall, hnw⟩ := hrel
 by_cases hlt : k < xs.length
 · obtain ⟨cs, ⟨rfl, hw1, hw2⟩, hx⟩ := Ty.At_loc hnw.block ha k _ (List.getElem?_eq_getElem hlt)
   have c0 := hx 0 _ rfl
   have c1 := hx 1 _ rfl
   have c2 := hx 2 _ rfl
   simp only [qBx, Ty.flat, Nat.add_zero] at c0 c1 c2
   have HT := hid (qBm hlt hall.out)
   have HN := hid (qA6 (f := bwB) hlt)
   clear hx
   have hs : qAd.Sl ((wr.alloc (.cells #[.bool xs[k].x, .string xs[k].ty, .int .u64 xs[k].n] 146)).alloc (.cells #[.string ⟨#[67, 84]⟩, .string ⟨#[65, 83]⟩, .string ⟨#[84, 73, 65, 83]⟩, .string ⟨#[82, 83]⟩, .string ⟨#[82, 82]⟩] 9)) qCt (.slice (some ⟨wr.heap.size + 1, 0, none⟩) 5 5) := by
    have := qH6 (wr.alloc (.cells #[.bool xs[k].x, .string xs[k].ty, .int .u64 xs[k].n] 146)) qCt 9 (qCi (by decide)) (by decide) (by decide)
    simpa [qCt] using this
   have hn2 : Nw w ((wr.alloc (.cells #[.bool xs[k].x, .string xs[k].ty, .int .u64 xs[k].n] 146)).alloc (.cells #[.string ⟨#[67, 84]⟩, .string ⟨#[65, 83]⟩, .string ⟨#[84, 73, 65, 83]⟩, .string ⟨#[82, 83]⟩, .string ⟨#[82, 82]⟩] 9)) := (hnw.alloc _).alloc _
   cases h1 : qDb xs[k].ty qCt
   · cases h2 : xs[k].x
     · have HF : Hid (qF7 xs = false) := hid (by unfold qF7; rw [HN.out (by unfold bwB; rw [h1, h2]; rfl)]; rfl)
       rw [h2] at c0 hs hn2
       go_wp2_with (go_at_call 39; refine (qB1 xs[k].ty qCt _ _ hs).mono ?_; rintro e w1 ⟨rfl, rfl⟩)
       go_ret
       exact ⟨qAa HF.out.symm, hn2⟩
     rw [h2] at c0 hs hn2
     cases h3 : qGh xs[k].ty
     · have HF : Hid (qF7 xs = false) := hid (by unfold qF7; rw [HN.out (by unfold bwB; rw [h1, h2, h3]; rfl)]; rfl)
       go_wp2_with (first | (go_at_call 39; refine (qB1 xs[k].ty qCt _ _ hs).mono ?_; rintro e w1 ⟨rfl, rfl⟩) | (go_at_call 38; refine (qB4 xs[k].ty _ hw1).mono ?_; rintro e w1 ⟨rfl, rfl⟩))
       go_ret
       exact ⟨qAa HF.out.symm, hn2⟩
     have HB : Hid (bwB xs[k] = decide (xs[k].n < 1125899906842624)) := hid (by unfold bwB; rw [h1, h2, h3]; rfl)
     go_wp2_with (first | (go_at_call 39; refine (qB1 xs[k].ty qCt _ _ hs).mono ?_; rintro e w1 ⟨rfl, rfl⟩) | (go_at_call 38; refine (qB4 xs[k].ty _ hw1).mono ?_; rintro e w1 ⟨rfl, rfl⟩))
     · go_ret
       exact ⟨qAa (by unfold qF7; rw [HN.out (by rw [HB.out]; simp; omega)]; rfl), hn2⟩
     exact ⟨⟨k + 1, by omega, by go_num, hid (by rw [HT.out, HB.out]; simp; omega), hn2⟩, by simp [intOf]; omega⟩
   have HB : Hid (bwB xs[k] = decide (xs[k].n < 1125899906842624)) := hid (by unfold bwB; rw [h1]; rfl)
   go_wp2_with (go_at_call 39; refine (qB1 xs[k].ty qCt _ _ hs).mono ?_; rintro e w1 ⟨rfl, rfl⟩)
   · go_ret
     exact ⟨qAa (by unfold qF7; rw [HN.out (by rw [HB.out]; simp; omega)]; rfl), hn2⟩
   exact ⟨⟨k + 1, by omega, by go_num, hid (by rw [HT.out, HB.out]; simp; omega), hn2⟩, by simp [intOf]; omega⟩
 have HF : Hid (qF7 xs = decide ((xs.length : Int) <= 10)) := hid (by
  rw [List.take_of_length_le (by omega)] at hall
  unfold qF7; rw [hall.out, Bool.true_and, Bool.eq_iff_iff]; simp; omega)
 go_wp2
 go_ret
 exact ⟨qAa HF.out.symm, hnw⟩
theorem Ty.Sl_at {α : Type} {T : Ty α} {w : World} {xs : List α} {A : Option Addr} {n c : Nat} (h : T.Sl w xs (.slice A n c)) (k : Nat) (hk : k < xs.length) : ∃ b o, A = some ⟨b, o, none⟩ /\ T.At w xs b o := by
 rcases h.2 with ⟨rfl, _⟩ | ⟨_, b, o, c', hv, _, ha⟩
 · simp at hk
 obtain ⟨rfl, -, -⟩ := Value.slice.inj hv
 exact ⟨b, o, rfl, ha⟩
def offB (o : Int) : Bool := decide (0 <= o) && decide (o < 1099511627776)
def qJq (r : Rep) : Bool := (decide (0 < r.ivl) && (decide (r.ivl < 1099511627776) && (decide (0 <= r.dur) && (decide (r.dur < 1099511627776) && (decide (0 < r.offs.length) && decide (r.offs.length <= 5)))))) && r.offs.all offB
def qN6 (t : Tim) : Bool := (decide (t.start < 1125899906842624) && (decide (t.stop < 1125899906842624) && decide (t.reps.length <= 5))) && t.reps.all qJq
def qEk (xs : List Tim) : Bool := xs.all qN6 && (decide (1 <= xs.length) && decide (xs.length <= 5))
set_option maxRecDepth 100000 in
set_option maxHeartbeats 1000000 in
theorem qNk (xs : List Tim) (v : Value) (w : World) (h : qCc.Sl w xs v) :
 Calls prog 40 #[v] w fun e w' => e = .returned (.bool (qEk xs)) /\ Nw w w' := by
 obtain ⟨A, c, rfl⟩ := Ty.Sl_form h
 have hm := h.1
 go_enter func40, ntmps40
 go_wp2
 go_loopw [11] (fun i wr => ∃ k : Nat, k <= xs.length /\ i = .int .i64 k /\ Hid ((xs.take k).all qN6 = true) /\ Nw w wr) (fun i _ => xs.length - (intOf i).toNat)
 case atStart => exact ⟨0, Nat.zero_le _, rfl, hid (by simp), Nw.refl _⟩
 obtain ⟨k, hk, rfl, hall, hnw⟩ := hrel
 by_cases hlt : k < xs.length
 · obtain ⟨b, o, rfl, ha⟩ := Ty.Sl_at h k hlt
   obtain ⟨cs, ⟨v1, rfl, hs0, hs1, h1⟩, hx⟩ := Ty.At_loc hnw.block ha k _ (List.getElem?_eq_getElem hlt)
   obtain ⟨A1, n1, rfl⟩ := Ty.Sl_form h1
   have c0 := hx 0 _ rfl
   have c1 := hx 1 _ rfl
   have c2 := hx 2 _ rfl
   simp only [qCc, Nat.add_zero] at c0 c1 c2
   have hm1 := h1.1
   have HT := hid (qBm hlt hall.out)
   have HF : Hid (qN6 xs[k] = false -> qEk xs = false) := hid (fun e => by unfold qEk; rw [qA6 (f := qN6) hlt e]; rfl)
   clear hx ha
   by_cases d1 : 1125899906842624 <= xs[k].start
   · go_wp2
     go_ret
     exact ⟨qAa (by rw [HF.out (by unfold qN6; rw [decide_eq_false (by omega)]; rfl)]), hnw.alloc _⟩
   by_cases d2 : 1125899906842624 <= xs[k].stop
   · go_wp2
     go_ret
     exact ⟨qAa (by rw [HF.out (by unfold qN6; rw [decide_eq_false (p := xs[k].stop < _) (by omega)]; simp)]), hnw.alloc _⟩
   by_cases d3 : (5 : Int) < (xs[k].reps.length : Int)
   · go_wp2
     go_ret
     exact ⟨qAa (by rw [HF.out (by unfold qN6; rw [decide_eq_false (p := xs[k].reps.length <= 5) (by omega)]; simp)]), hnw.alloc _⟩
   have HB : Hid (qN6 xs[k] = xs[k].reps.all qJq) := hid (by unfold qN6; rw [decide_eq_true (p := xs[k].start < _) (by omega), decide_eq_true (p := xs[k].stop < _) (by omega), decide_eq_true (p := xs[k].reps.length <= 5) (by omega)]; simp)
   go_wp2
   have hq : Nw wr (wr.alloc (.cells #[.int .u64 xs[k].start, .int .u64 xs[k].stop, .slice A1 xs[k].reps.length n1] 74)) := (Nw.refl wr).alloc _
   obtain ⟨wo, hwo⟩ : ∃ wo, wo = wr.alloc (.cells #[.int .u64 xs[k].start, .int .u64 xs[k].stop, .slice A1 xs[k].reps.length n1] 74) := ⟨_, rfl⟩
   rw [<- hwo] at hq ⊢
   have hno : Nw w wo := hnw.trans hq
   have h1o := Ty.Sl_loc hq.block h1
   clear hwo c0 c1 c2 hq h1
   go_loopw [32] (fun i wr2 => ∃ j : Nat, j <= xs[k].reps.length /\ i = .int .i64 j /\ Hid ((xs[k].reps.take j).all qJq = true) /\ Nw wo wr2) (fun i _ => xs[k].reps.length - (intOf i).toNat)
   case atStart => exact ⟨0, Nat.zero_le _, rfl, hid (by simp), Nw.refl _⟩
   obtain ⟨j, hj, rfl, hall2, hnw2⟩ := hrel
   by_cases hlt2 : j < xs[k].reps.length
   · obtain ⟨b1, o1, rfl, ha1⟩ := Ty.Sl_at h1o j hlt2
     obtain ⟨cs, ⟨v2, rfl, hs2, hs3, h2⟩, hx⟩ := Ty.At_loc hnw2.block ha1 j _ (List.getElem?_eq_getElem hlt2)
     obtain ⟨A2, n2, rfl⟩ := Ty.Sl_form h2
     have c0 := hx 0 _ rfl
     have c1 := hx 1 _ rfl
     have c2 := hx 2 _ rfl
     simp only [qDc, Nat.add_zero] at c0 c1 c2
     obtain ⟨r, hr⟩ : ∃ r, r = xs[k].reps[j] := ⟨_, rfl⟩
     rw [<- hr] at c0 c1 c2 h2
     have HR : Hid (xs[k].reps[j] = r) := hid hr.symm
     have hm2 := h2.1
     have HT2 : Hid ((xs[k].reps.take (j + 1)).all qJq = qJq r) := hid (by rw [hr]; exact qBm hlt2 hall2.out)
     have HF2 : Hid (qJq r = false -> qEk xs = false) := hid (fun e => HF.out (by rw [HB.out]; exact qA6 hlt2 (by rw [<- hr]; exact e)))
     clear hx ha1 hr
     have q9 : Nw w (wr.alloc (.cells #[.int .i64 r.ivl, .int .i64 r.dur, .slice A2 r.offs.length n2] 78)) := (hno.trans hnw2).alloc _
     by_cases g1 : r.ivl <= 0
     · go_wp2
       go_ret
       exact ⟨qAa (by rw [HF2.out (by unfold qJq; rw [decide_eq_false (by omega)]; rfl)]), q9⟩
     by_cases g2 : 1099511627776 <= r.ivl
     · go_wp2
       go_ret
       exact ⟨qAa (by rw [HF2.out (by unfold qJq; rw [decide_eq_false (p := r.ivl < _) (by omega)]; simp)]), q9⟩
     by_cases g3 : r.dur < 0
     · go_wp2
       go_ret
       exact ⟨qAa (by rw [HF2.out (by unfold qJq; rw [decide_eq_false (p := 0 <= r.dur) (by omega)]; simp)]), q9⟩
     by_cases g4 : 1099511627776 <= r.dur
     · go_wp2
       go_ret
       exact ⟨qAa (by rw [HF2.out (by unfold qJq; rw [decide_eq_false (p := r.dur < _) (by omega)]; simp)]), q9⟩
     cases g5 : ((r.offs.length : Int) == 0)
     · by_cases g6 : (5 : Int) < (r.offs.length : Int)
       · go_wp2
         go_ret
         exact ⟨qAa (by rw [HF2.out (by unfold qJq; rw [decide_eq_false (p := r.offs.length <= 5) (by omega)]; simp)]), q9⟩
       have HB2 : Hid (qJq r = r.offs.all offB) := hid (by
        have g7 : 0 < r.offs.length := by simp at g5; exact List.length_pos_iff.2 g5
        unfold qJq; rw [decide_eq_true (p := 0 < r.ivl) (by omega), decide_eq_true (p := r.ivl < _) (by omega), decide_eq_true (p := 0 <= r.dur) (by omega), decide_eq_true (p := r.dur < _) (by omega), decide_eq_true (p := 0 < r.offs.length) g7, decide_eq_true (p := r.offs.length <= 5) (by omega)]; simp)
       go_wp2
       have h2o := Ty.Sl_loc ((Nw.refl wr).alloc (.cells #[.int .i64 r.ivl, .int .i64 r.dur, .slice A2 r.offs.length n2] 78)).block h2
       have q8 : Nw wo (wr.alloc (.cells #[.int .i64 r.ivl, .int .i64 r.dur, .slice A2 r.offs.length n2] 78)) := hnw2.alloc _
       obtain ⟨wp, hwp⟩ : ∃ wp, wp = wr.alloc (.cells #[.int .i64 r.ivl, .int .i64 r.dur, .slice A2 r.offs.length n2] 78) := ⟨_, rfl⟩
       rw [<- hwp] at q8 q9 h2o ⊢
       clear hwp c0 c1 c2 h2
       go_loop [69] (fun i => ∃ l : Nat, l <= r.offs.length /\ i = .int .i64 l /\ Hid ((r.offs.take l).all offB = true)) (fun i => r.offs.length - (intOf i).toNat)
       case atStart => exact ⟨0, Nat.zero_le _, rfl, hid (by simp)⟩
       obtain ⟨l, hl, rfl, hall3⟩ := hrel
       by_cases hlt3 : l < r.offs.length
       · obtain ⟨b2, o2, rfl, ha2⟩ := Ty.Sl_at h2o l hlt3
         obtain ⟨cs, ⟨rfl, hwf⟩, hx⟩ := ha2 l _ (List.getElem?_eq_getElem hlt3)
         have hx := hx 0 _ rfl
         simp only [tyI, qCn, Ty.flat, Nat.mul_one, Nat.add_zero] at hx
         have HT3 := hid (qBm hlt3 hall3.out)
         have HF3 : Hid (offB r.offs[l] = false -> qEk xs = false) := hid (fun e => HF2.out (by rw [HB2.out]; exact qA6 hlt3 e))
         by_cases f1 : r.offs[l] < 0
         · go_wp2
           go_ret
           exact ⟨qAa (by rw [HF3.out (by unfold offB; rw [decide_eq_false (by omega)]; rfl)]), q9⟩
         by_cases f2 : 1099511627776 <= r.offs[l]
         · go_wp2
           go_ret
           exact ⟨qAa (by rw [HF3.out (by unfold offB; rw [decide_eq_false (p := r.offs[l] < _) (by omega)]; simp)]), q9⟩
         go_wp2
         exact ⟨⟨l + 1, by omega, by go_num, hid (by rw [HT3.out]; simp [offB]; omega)⟩, by simp [intOf]; omega⟩
       have HE : Hid (qJq r = true) := hid (by rw [HB2.out, <- hall3.out, List.take_of_length_le (by omega)])
       go_wp2
       exact ⟨⟨j + 1, by omega, by go_num, hid (by rw [HT2.out, HE.out]), q8⟩, by simp [intOf]; omega⟩
     have g7 : r.offs.length = 0 := by simpa using g5
     have HE : Hid (qJq r = false) := hid (by unfold qJq; rw [decide_eq_false (p := 0 < r.offs.length) (by omega)]; simp)
     clear g7
     go_wp2
     go_ret
     exact ⟨qAa (by rw [HF2.out HE.out]), q9⟩
   have HE : Hid (qN6 xs[k] = true) := hid (by rw [HB.out, <- hall2.out, List.take_of_length_le (by omega)])
   go_wp2
   exact ⟨⟨k + 1, by omega, by go_num, hid (by rw [HT.out, HE.out]), hno.trans hnw2⟩, by simp [intOf]; omega⟩
 have HE : Hid (qEk xs = (decide (1 <= xs.length) && decide (xs.length <= 5))) := hid (by
  rw [List.take_of_length_le (by omega)] at hall
  unfold qEk; rw [hall.out]; rfl)
 go_wp2
 all_goals go_ret
 all_goals exact ⟨qAa (by rw [HE.out, Bool.eq_iff_iff]; simp; omega), hnw⟩
end Go.Proofs.YtcepdjlknalmnaaGreatDoor

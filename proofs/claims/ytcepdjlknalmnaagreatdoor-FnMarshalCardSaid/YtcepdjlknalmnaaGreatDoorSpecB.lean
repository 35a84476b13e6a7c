/- What the reference's small tests answer: Word, Line, is, one. -/
import Derived.Test.YtcepdjlknalmnaaGreatDoorFits
import Derived.Lib.Strings
namespace Go.Proofs.YtcepdjlknalmnaaGreatDoor
open Go.RowKit
set_option linter.unusedSimpArgs false
set_option linter.unusedVariables false
theorem len_list (s : ByteArray) : s.data.toList.length = s.size := by simp only [Array.length_toList]; rfl
theorem get_list {s : ByteArray} {k : Nat} (h : k < s.size) (h' : k < s.data.toList.length) : s.data.toList[k] = s[k] := Array.getElem_toList _
theorem bytes_take {s : ByteArray} {f : UInt8 → Bool} {k : Nat} (h : k < s.size) (ha : (s.data.toList.take k).all f = true) : (s.data.toList.take (k + 1)).all f = f s[k] := by
 rw [take_all (by rw [len_list]; exact h) ha, get_list h]
theorem bytes_false {s : ByteArray} {f : UInt8 → Bool} {k : Nat} (h : k < s.size) (hf : f s[k] = false) : s.data.toList.all f = false :=
 all_false (k := k) (by rw [len_list]; exact h) (by rw [get_list h]; exact hf)
theorem bytes_all {s : ByteArray} {f : UInt8 → Bool} {k : Nat} (h : ¬ k < s.size) (ha : (s.data.toList.take k).all f = true) : s.data.toList.all f = true := by
 rw [List.take_of_length_le (by rw [len_list]; omega)] at ha
 exact ha
def wordB (c : UInt8) : Bool := !(decide ((c.toNat : Int) ≤ 32) || decide (126 < (c.toNat : Int)) || (c.toNat : Int) == 47 || (c.toNat : Int) == 58)
def word (s : ByteArray) : Bool := s.data.toList.all wordB && !s.data.toList.isEmpty
theorem spec_Word (s : ByteArray) (w : World) (hs : WfStr s) :
 Calls Tryz.prog 38 #[.string s] w fun e w' => e = .returned (.bool (word s)) ∧ w' = w := by
 have hm : s.size ≤ 1152921504606846976 := hs
 clear hs
 go_enter Tryz.func38, Tryz.ntmps38
 go_wp2
 go_loop [6] (fun i => ∃ k : Nat, k ≤ s.size ∧ i = .int .i64 k ∧ Hid ((s.data.toList.take k).all wordB = true)) (fun i => s.size - (intOf i).toNat)
 case atStart => exact ⟨0, Nat.zero_le _, rfl, Lib.hid (by simp)⟩
 case round =>
  obtain ⟨k, hk, rfl, hall⟩ := hrel
  by_cases hlt : k < s.size
  · have HT := Lib.hid (bytes_take hlt hall.out)
    have HN := Lib.hid (bytes_false (f := wordB) hlt)
    by_cases hb : wordB (s[k]'hlt) = true
    · have HB := Lib.hid hb
      simp only [wordB, Bool.not_eq_true', Bool.or_eq_false_iff, decide_eq_false_iff_not] at hb
      obtain ⟨⟨⟨h1, h2⟩, h3⟩, h4⟩ := hb
      go_wp2
      exact ⟨⟨k + 1, by omega, by go_num, Lib.hid (by rw [HT.out, HB.out])⟩, by simp [intOf]; omega⟩
    · have HF : Hid (word s = false) := Lib.hid (by unfold word; rw [HN.out (by simpa using hb)]; rfl)
      have hb' : ((s[k]'hlt).toNat : Int) ≤ 32 ∨ 126 < ((s[k]'hlt).toNat : Int) ∨ (((s[k]'hlt).toNat : Int) = 47) ∨ (((s[k]'hlt).toNat : Int) = 58) := by
       simp only [wordB, Bool.not_eq_true', Bool.or_eq_false_iff, decide_eq_false_iff_not, beq_eq_false_iff_ne] at hb
       omega
      clear hb HT HN
      by_cases h1 : ((s[k]'hlt).toNat : Int) ≤ 32
      · go_wp2
        go_ret
        exact ⟨ret_bool HF.out.symm, rfl⟩
      · by_cases h2 : 126 < ((s[k]'hlt).toNat : Int)
        · go_wp2
          go_ret
          exact ⟨ret_bool HF.out.symm, rfl⟩
        · by_cases h3 : ((s[k]'hlt).toNat : Int) = 47
          · have h3' : (((s[k]'hlt).toNat : Int) == 47) = true := by simp [h3]
            clear h3 hb'
            go_wp2
            go_ret
            exact ⟨ret_bool HF.out.symm, rfl⟩
          · have h3' : (((s[k]'hlt).toNat : Int) == 47) = false := by simp [h3]
            have h4' : (((s[k]'hlt).toNat : Int) == 58) = true := by simp; omega
            clear h3 hb'
            go_wp2
            go_ret
            exact ⟨ret_bool HF.out.symm, rfl⟩
  · have HA := Lib.hid (bytes_all hlt hall.out)
    go_wp2
    go_ret
    exact ⟨ret_bool (by unfold word; rw [HA.out, ByteArray.toList_eq]; rfl), rfl⟩
def lineB (c : UInt8) : Bool := !(decide ((c.toNat : Int) < 32) || decide (126 < (c.toNat : Int)))
def ends (l : List UInt8) : Bool := !l.isEmpty && (l.headD 32 != 32 && l.getLastD 32 != 32)
def line (s : ByteArray) : Bool := s.data.toList.all lineB && ends s.data.toList
theorem spec_Line (s : ByteArray) (w : World) (hs : WfStr s) :
 Calls Tryz.prog 19 #[.string s] w fun e w' => e = .returned (.bool (line s)) ∧ w' = w := by
 have hm : s.size ≤ 1152921504606846976 := hs
 clear hs
 go_enter Tryz.func19, Tryz.ntmps19
 go_wp2
 go_loop [6] (fun i => ∃ k : Nat, k ≤ s.size ∧ i = .int .i64 k ∧ Hid ((s.data.toList.take k).all lineB = true)) (fun i => s.size - (intOf i).toNat)
 case atStart => exact ⟨0, Nat.zero_le _, rfl, Lib.hid (by simp)⟩
 case round =>
  obtain ⟨k, hk, rfl, hall⟩ := hrel
  by_cases hlt : k < s.size
  · have HT := Lib.hid (bytes_take hlt hall.out)
    have HN := Lib.hid (bytes_false (f := lineB) hlt)
    by_cases hb : lineB (s[k]'hlt) = true
    · have HB := Lib.hid hb
      simp only [lineB, Bool.not_eq_true', Bool.or_eq_false_iff, decide_eq_false_iff_not] at hb
      obtain ⟨h1, h2⟩ := hb
      go_wp2
      exact ⟨⟨k + 1, by omega, by go_num, Lib.hid (by rw [HT.out, HB.out])⟩, by simp [intOf]; omega⟩
    · have HF : Hid (line s = false) := Lib.hid (by unfold line; rw [HN.out (by simpa using hb)]; rfl)
      have hb' : ((s[k]'hlt).toNat : Int) < 32 ∨ 126 < ((s[k]'hlt).toNat : Int) := by
       simp only [lineB, Bool.not_eq_true', Bool.or_eq_false_iff, decide_eq_false_iff_not] at hb
       omega
      clear hb HT HN
      by_cases h1 : ((s[k]'hlt).toNat : Int) < 32
      · go_wp2
        go_ret
        exact ⟨ret_bool HF.out.symm, rfl⟩
      · go_wp2
        go_ret
        exact ⟨ret_bool HF.out.symm, rfl⟩
  · have HA := Lib.hid (bytes_all hlt hall.out)
    clear hall
    by_cases h0 : s.size = 0
    · have he : s.toList.isEmpty = true := by rw [ByteArray.toList_eq, List.isEmpty_iff, ← List.length_eq_zero_iff, len_list]; exact h0
      have HE : Hid (ends s.data.toList = false) := Lib.hid (by unfold ends; rw [← ByteArray.toList_eq, he]; rfl)
      clear h0
      go_wp2
      go_ret
      exact ⟨ret_bool (by unfold line; rw [HA.out, HE.out]; rfl), rfl⟩
    · have h1 : 0 < s.size := by omega
      have he : s.toList.isEmpty = false := by rw [ByteArray.toList_eq]; cases hd : s.data.toList with
       | nil => have := len_list s; rw [hd] at this; simp at this; omega
       | cons => rfl
      have h1i : (0 : Int) < (s.size : Int) := by omega
      have h2i : (0 : Int) ≤ (s.size : Int) - 1 := by omega
      have h3i : (s.size : Int) - 1 < (s.size : Int) := by omega
      have HE : Hid (ends s.data.toList = ((s[0]'h1).toNat != 32 && (s[s.size - 1]'(by omega)).toNat != 32)) := Lib.hid (by
       have hn : s.data.toList ≠ [] := by intro e; have := len_list s; rw [e] at this; simp at this; omega
       unfold ends
       rw [← ByteArray.toList_eq, he, ByteArray.toList_eq, List.headD_eq_head?_getD, List.getLastD_eq_getLast?, List.head?_eq_getElem?, List.getLast?_eq_getElem?, List.getElem?_eq_getElem (by rw [len_list]; omega), List.getElem?_eq_getElem (by rw [len_list]; omega)]
       simp only [Option.getD_some, len_list, get_list h1, get_list (show s.size - 1 < s.size by omega), Bool.not_false, Bool.true_and]
       congr 1
       all_goals
        rw [Bool.eq_iff_iff]
        simp [← UInt8.toNat_inj])
      clear h0
      by_cases hz : (s[0]'h1).toNat = 32
      · have hz1 : (((s[0]'h1).toNat : Int) != 32) = false := by simp [hz]
        have HF : Hid (line s = false) := Lib.hid (by unfold line; rw [HE.out]; simp [hz])
        clear hz
        go_wp2
        go_ret
        exact ⟨ret_bool HF.out.symm, rfl⟩
      · have hz1 : (((s[0]'h1).toNat : Int) != 32) = true := by simp; omega
        have HF : Hid (line s = ((s[s.size - 1]'(by omega)).toNat != 32)) := Lib.hid (by unfold line; rw [HA.out, HE.out]; simp [hz])
        clear hz
        go_wp2
        go_ret
        exact ⟨ret_bool (by rw [HF.out, Bool.eq_iff_iff]; simp; omega), rfl⟩
def isIn (s : ByteArray) (xs : List ByteArray) : Bool := xs.any (fun x => x.toList == s.toList)
theorem any_take {α : Type} {xs : List α} {f : α → Bool} {k : Nat} (h : k < xs.length) (ha : (xs.take k).any f = false) : (xs.take (k + 1)).any f = f xs[k] := by
 rw [List.take_succ_eq_append_getElem h, List.any_append, ha]
 simp
theorem any_true {α : Type} {xs : List α} {f : α → Bool} {k : Nat} (h : k < xs.length) (hf : f xs[k] = true) : xs.any f = true := by
 rw [List.any_eq_true]
 exact ⟨_, List.getElem_mem h, hf⟩
theorem spec_is (s : ByteArray) (xs : List ByteArray) (v : Value) (w : World) (h : tyStr.Sl w xs v) :
 Calls Tryz.prog 39 #[.string s, v] w fun e w' => e = .returned (.bool (isIn s xs)) ∧ w' = w := by
 obtain ⟨hm, h⟩ := h
 rcases h with ⟨rfl, A, c, rfl, _⟩ | ⟨hp, b, o, c, rfl, hc, ha⟩
 · go_enter Tryz.func39, Tryz.ntmps39
   go_wp2
   refine wp_loop_rounds 1 ?_
   rw [rounds_succ]
   go_wp2
   go_ret
   exact ⟨ret_bool rfl, rfl⟩
 · go_enter Tryz.func39, Tryz.ntmps39
   go_wp2
   go_loop [9] (fun i => ∃ k : Nat, k ≤ xs.length ∧ i = .int .i64 k ∧ Hid ((xs.take k).any (fun x => x.toList == s.toList) = false)) (fun i => xs.length - (intOf i).toNat)
   case atStart => exact ⟨0, Nat.zero_le _, rfl, Lib.hid (by simp)⟩
   case round =>
    obtain ⟨k, hk, rfl, hall⟩ := hrel
    by_cases hlt : k < xs.length
    · obtain ⟨cs, ⟨rfl, _⟩, hx⟩ := ha k _ (List.getElem?_eq_getElem hlt)
      have hx := hx 0 _ rfl
      simp only [tyStr, Ty.flat, Nat.mul_one, Nat.add_zero] at hx
      have HT := Lib.hid (any_take hlt hall.out)
      have HN := Lib.hid (any_true (f := fun x : ByteArray => x.toList == s.toList) hlt)
      go_wp2
      · go_ret
        exact ⟨ret_bool (by unfold isIn; rw [HN.out (by assumption)]), rfl⟩
      · exact ⟨⟨k + 1, by omega, by go_num, Lib.hid (by rw [HT.out]; assumption)⟩, by simp [intOf]; omega⟩
    · go_wp2
      go_ret
      exact ⟨ret_bool (by unfold isIn; rw [← hall.out, List.take_of_length_le (by omega)]), rfl⟩
def one (xs : List ByteArray) : Bool := match xs with
 | [] => true
 | [x] => line x
 | _ => false
theorem spec_one (xs : List ByteArray) (v : Value) (w : World) (h : tyStr.Sl w xs v) :
 Calls Tryz.prog 42 #[v] w fun e w' => e = .returned (.bool (one xs)) ∧ w' = w := by
 obtain ⟨hm, h⟩ := h
 rcases h with ⟨rfl, A, c, rfl, _⟩ | ⟨hp, b, o, c, rfl, hc, ha⟩
 · go_enter Tryz.func42, Tryz.ntmps42
   go_wp2
   go_ret
   exact ⟨ret_bool rfl, rfl⟩
 · match xs, hp with
   | [x], _ =>
    obtain ⟨cs, ⟨rfl, hx0⟩, hx⟩ := ha 0 x rfl
    have hx := hx 0 _ rfl
    simp only [tyStr, Ty.flat, Nat.mul_one, Nat.add_zero, Nat.zero_mul] at hx
    simp only [List.length_cons, List.length_nil, Nat.zero_add]
    go_enter Tryz.func42, Tryz.ntmps42
    go_wp2_with (go_at_call 19; refine (spec_Line x _ hx0).mono ?_; rintro e w1 ⟨rfl, rfl⟩)
    go_ret
    exact ⟨ret_bool rfl, rfl⟩
   | x :: y :: l, _ =>
    have h1 : (((x :: y :: l).length : Int) == 0) = false := by simp; omega
    have h2 : (((x :: y :: l).length : Int) == 1) = false := by simp; omega
    obtain ⟨n, hn⟩ : ∃ n, (x :: y :: l).length = n := ⟨_, rfl⟩
    rw [hn] at h1 h2 ⊢
    clear hn
    go_enter Tryz.func42, Tryz.ntmps42
    go_wp2
    go_ret
    exact ⟨ret_bool rfl, rfl⟩
end Go.Proofs.YtcepdjlknalmnaaGreatDoor
/- What the reference's tests of parts answer: attributes, bandwidths, connections, times, media. -/
namespace Go.Proofs.YtcepdjlknalmnaaGreatDoor
open Go.RowKit
set_option linter.unusedSimpArgs false
set_option linter.unusedVariables false
def attB (a : Att) : Bool := word a.key && (a.val.toList.isEmpty || line a.val)
def attsOk (xs : List Att) : Bool := xs.all attB && decide (xs.length ≤ 20)
theorem spec_attributes (xs : List Att) (v : Value) (w : World) (h : tyAtt.Sl w xs v) :
 Calls Tryz.prog 45 #[v] w fun e w' => e = .returned (.bool (attsOk xs)) ∧ Nw w w' := by
 obtain ⟨hm, h⟩ := h
 rcases h with ⟨rfl, A, c, rfl, _⟩ | ⟨hp, b, o, c, rfl, hc, ha⟩
 · go_enter Tryz.func45, Tryz.ntmps45
   go_wp2
   refine wp_loop_rounds 1 ?_
   rw [rounds_succ]
   go_wp2
   go_ret
   exact ⟨ret_bool rfl, Nw.refl _⟩
 · go_enter Tryz.func45, Tryz.ntmps45
   go_wp2
   go_loopw [7] (fun i wr => ∃ k : Nat, k ≤ xs.length ∧ i = .int .i64 k ∧ Hid ((xs.take k).all attB = true) ∧ Nw w wr) (fun i _ => xs.length - (intOf i).toNat)
   case atStart => exact ⟨0, Nat.zero_le _, rfl, Lib.hid (by simp), Nw.refl _⟩
   case round =>
    obtain ⟨k, hk, rfl, hall, hnw⟩ := hrel
    by_cases hlt : k < xs.length
    · obtain ⟨cs, ⟨rfl, hw1, hw2⟩, hx⟩ := Ty.At_loc hnw.block ha k _ (List.getElem?_eq_getElem hlt)
      have c0 := hx 0 _ rfl
      have c1 := hx 1 _ rfl
      simp only [tyAtt, Ty.flat, Nat.add_zero] at c0 c1
      have HT := Lib.hid (take_all hlt hall.out)
      have HN := Lib.hid (all_false (f := attB) hlt)
      clear hx
      cases h1 : word xs[k].key
      · have HF : Hid (attsOk xs = false) := Lib.hid (by unfold attsOk; rw [HN.out (by unfold attB; rw [h1]; rfl)]; rfl)
        go_wp2_with (go_at_call 38; refine (spec_Word xs[k].key _ hw1).mono ?_; rintro e w1 ⟨rfl, rfl⟩)
        go_ret
        exact ⟨ret_bool HF.out.symm, hnw.alloc _⟩
      · cases h2 : xs[k].val.toList.isEmpty
        · cases h3 : line xs[k].val
          · have HF : Hid (attsOk xs = false) := Lib.hid (by unfold attsOk; rw [HN.out (by unfold attB; rw [h1, h2, h3]; rfl)]; rfl)
            go_wp2_with (first | (go_at_call 38; refine (spec_Word xs[k].key _ hw1).mono ?_; rintro e w1 ⟨rfl, rfl⟩) | (go_at_call 19; refine (spec_Line xs[k].val _ hw2).mono ?_; rintro e w1 ⟨rfl, rfl⟩))
            go_ret
            exact ⟨ret_bool HF.out.symm, hnw.alloc _⟩
          · have HB : Hid (attB xs[k] = true) := Lib.hid (by unfold attB; rw [h1, h2, h3]; rfl)
            go_wp2_with (first | (go_at_call 38; refine (spec_Word xs[k].key _ hw1).mono ?_; rintro e w1 ⟨rfl, rfl⟩) | (go_at_call 19; refine (spec_Line xs[k].val _ hw2).mono ?_; rintro e w1 ⟨rfl, rfl⟩))
            exact ⟨⟨k + 1, by omega, by go_num, Lib.hid (by rw [HT.out, HB.out]), hnw.alloc _⟩, by simp [intOf]; omega⟩
        · have HB : Hid (attB xs[k] = true) := Lib.hid (by unfold attB; rw [h1, h2]; rfl)
          go_wp2_with (first | (go_at_call 38; refine (spec_Word xs[k].key _ hw1).mono ?_; rintro e w1 ⟨rfl, rfl⟩) | (go_at_call 19; refine (spec_Line xs[k].val _ hw2).mono ?_; rintro e w1 ⟨rfl, rfl⟩))
          exact ⟨⟨k + 1, by omega, by go_num, Lib.hid (by rw [HT.out, HB.out]), hnw.alloc _⟩, by simp [intOf]; omega⟩
    · have HF : Hid (attsOk xs = decide ((xs.length : Int) ≤ 20)) := Lib.hid (by
       rw [List.take_of_length_le (by omega)] at hall
       unfold attsOk; rw [hall.out, Bool.true_and, Bool.eq_iff_iff]; simp; omega)
      go_wp2
      go_ret
      exact ⟨ret_bool HF.out.symm, hnw⟩
theorem sl_new (W : World) (xs : List ByteArray) (e : TypeId) (hw : ∀ x ∈ xs, WfStr x) (hn : xs.length ≤ 1000) (hp : 0 < xs.length) : tyStr.Sl (W.alloc (.cells (xs.map Value.string).toArray e)) xs (.slice (some ⟨W.heap.size, 0, none⟩) xs.length xs.length) := by
 refine ⟨by omega, .inr ⟨hp, _, _, _, rfl, Nat.le_refl _, fun k x hx => ⟨_, ⟨rfl, hw x (List.mem_of_getElem? hx)⟩, fun j u hu => ?_⟩⟩⟩
 have hj : j = 0 := by
  have := (List.getElem?_eq_some_iff.1 hu).1
  simp at this; omega
 subst hj
 have h2 := World.news_of_block (cs := (xs.map Value.string).toArray) (t := e) (fr := (0, 0)) (heap_alloc_new W _) k u (by simpa [hx] using hu)
 rw [addr_add] at h2
 simpa [tyStr, Ty.flat] using h2
def bwTypes : List ByteArray := [⟨#[67, 84]⟩, ⟨#[65, 83]⟩, ⟨#[84, 73, 65, 83]⟩, ⟨#[82, 83]⟩, ⟨#[82, 82]⟩]
def bwB (b : Bwd) : Bool := (isIn b.ty bwTypes || (b.x && word b.ty)) && decide (b.n < 1125899906842624)
def bwsOk (xs : List Bwd) : Bool := xs.all bwB && decide (xs.length ≤ 10)
theorem wf_short {l : List ByteArray} (h : l.all (fun x => decide (x.size ≤ 1000)) = true) : ∀ x ∈ l, WfStr x := fun x hx => by
 have := List.all_eq_true.1 h x hx
 have h1 : x.size ≤ 1000 := by simpa using this
 show x.size ≤ 1152921504606846976
 omega
theorem spec_bandwidths (xs : List Bwd) (v : Value) (w : World) (h : tyBwd.Sl w xs v) :
 Calls Tryz.prog 44 #[v] w fun e w' => e = .returned (.bool (bwsOk xs)) ∧ Nw w w' := by
 obtain ⟨hm, h⟩ := h
 rcases h with ⟨rfl, A, c, rfl, _⟩ | ⟨hp, b, o, c, rfl, hc, ha⟩
 · go_enter Tryz.func44, Tryz.ntmps44
   go_wp2
   refine wp_loop_rounds 1 ?_
   rw [rounds_succ]
   go_wp2
   go_ret
   exact ⟨ret_bool rfl, Nw.refl _⟩
 · go_enter Tryz.func44, Tryz.ntmps44
   go_wp2
   go_loopw [7] (fun i wr => ∃ k : Nat, k ≤ xs.length ∧ i = .int .i64 k ∧ Hid ((xs.take k).all bwB = true) ∧ Nw w wr) (fun i _ => xs.length - (intOf i).toNat)
   case atStart => exact ⟨0, Nat.zero_le _, rfl, Lib.hid (by simp), Nw.refl _⟩
   case round =>
    obtain ⟨k, hk, rfl, hall, hnw⟩ := hrel
    by_cases hlt : k < xs.length
    · obtain ⟨cs, ⟨rfl, hw1, hw2⟩, hx⟩ := Ty.At_loc hnw.block ha k _ (List.getElem?_eq_getElem hlt)
      have c0 := hx 0 _ rfl
      have c1 := hx 1 _ rfl
      have c2 := hx 2 _ rfl
      simp only [tyBwd, Ty.flat, Nat.add_zero] at c0 c1 c2
      have HT := Lib.hid (take_all hlt hall.out)
      have HN := Lib.hid (all_false (f := bwB) hlt)
      clear hx
      have hs : tyStr.Sl ((wr.alloc (.cells #[.bool xs[k].x, .string xs[k].ty, .int .u64 xs[k].n] 146)).alloc (.cells #[.string ⟨#[67, 84]⟩, .string ⟨#[65, 83]⟩, .string ⟨#[84, 73, 65, 83]⟩, .string ⟨#[82, 83]⟩, .string ⟨#[82, 82]⟩] 9)) bwTypes (.slice (some ⟨wr.heap.size + 1, 0, none⟩) 5 5) := by
       have := sl_new (wr.alloc (.cells #[.bool xs[k].x, .string xs[k].ty, .int .u64 xs[k].n] 146)) bwTypes 9 (wf_short (by decide)) (by decide) (by decide)
       simpa [bwTypes] using this
      have hn2 : Nw w ((wr.alloc (.cells #[.bool xs[k].x, .string xs[k].ty, .int .u64 xs[k].n] 146)).alloc (.cells #[.string ⟨#[67, 84]⟩, .string ⟨#[65, 83]⟩, .string ⟨#[84, 73, 65, 83]⟩, .string ⟨#[82, 83]⟩, .string ⟨#[82, 82]⟩] 9)) := (hnw.alloc _).alloc _
      cases h1 : isIn xs[k].ty bwTypes
      · cases h2 : xs[k].x
        · have HF : Hid (bwsOk xs = false) := Lib.hid (by unfold bwsOk; rw [HN.out (by unfold bwB; rw [h1, h2]; rfl)]; rfl)
          rw [h2] at c0 hs hn2
          go_wp2_with (go_at_call 39; refine (spec_is xs[k].ty bwTypes _ _ hs).mono ?_; rintro e w1 ⟨rfl, rfl⟩)
          go_ret
          exact ⟨ret_bool HF.out.symm, hn2⟩
        · rw [h2] at c0 hs hn2
          cases h3 : word xs[k].ty
          · have HF : Hid (bwsOk xs = false) := Lib.hid (by unfold bwsOk; rw [HN.out (by unfold bwB; rw [h1, h2, h3]; rfl)]; rfl)
            go_wp2_with (first | (go_at_call 39; refine (spec_is xs[k].ty bwTypes _ _ hs).mono ?_; rintro e w1 ⟨rfl, rfl⟩) | (go_at_call 38; refine (spec_Word xs[k].ty _ hw1).mono ?_; rintro e w1 ⟨rfl, rfl⟩))
            go_ret
            exact ⟨ret_bool HF.out.symm, hn2⟩
          · have HB : Hid (bwB xs[k] = decide (xs[k].n < 1125899906842624)) := Lib.hid (by unfold bwB; rw [h1, h2, h3]; rfl)
            go_wp2_with (first | (go_at_call 39; refine (spec_is xs[k].ty bwTypes _ _ hs).mono ?_; rintro e w1 ⟨rfl, rfl⟩) | (go_at_call 38; refine (spec_Word xs[k].ty _ hw1).mono ?_; rintro e w1 ⟨rfl, rfl⟩))
            · go_ret
              exact ⟨ret_bool (by unfold bwsOk; rw [HN.out (by rw [HB.out]; simp; omega)]; rfl), hn2⟩
            · exact ⟨⟨k + 1, by omega, by go_num, Lib.hid (by rw [HT.out, HB.out]; simp; omega), hn2⟩, by simp [intOf]; omega⟩
      · have HB : Hid (bwB xs[k] = decide (xs[k].n < 1125899906842624)) := Lib.hid (by unfold bwB; rw [h1]; rfl)
        go_wp2_with (go_at_call 39; refine (spec_is xs[k].ty bwTypes _ _ hs).mono ?_; rintro e w1 ⟨rfl, rfl⟩)
        · go_ret
          exact ⟨ret_bool (by unfold bwsOk; rw [HN.out (by rw [HB.out]; simp; omega)]; rfl), hn2⟩
        · exact ⟨⟨k + 1, by omega, by go_num, Lib.hid (by rw [HT.out, HB.out]; simp; omega), hn2⟩, by simp [intOf]; omega⟩
    · have HF : Hid (bwsOk xs = decide ((xs.length : Int) ≤ 10)) := Lib.hid (by
       rw [List.take_of_length_le (by omega)] at hall
       unfold bwsOk; rw [hall.out, Bool.true_and, Bool.eq_iff_iff]; simp; omega)
      go_wp2
      go_ret
      exact ⟨ret_bool HF.out.symm, hnw⟩
end Go.Proofs.YtcepdjlknalmnaaGreatDoor

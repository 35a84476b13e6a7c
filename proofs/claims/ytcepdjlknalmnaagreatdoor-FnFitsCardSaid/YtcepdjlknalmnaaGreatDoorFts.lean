/- A format fits itself: the package's comparison of formats. -/
import Derived.Test.YtcepdjlknalmnaaGreatDoorRepC
import Derived.Test.YtcepdjlknalmnaaGreatDoorSplit
import Derived.Test.YtcepdjlknalmnaaGreatDoorNum
import Derived.Test.YtcepdjlknalmnaaGreatDoorShelf
import Derived.Test.YtcepdjlknalmnaaGreatDoorShelfS
namespace Go.Proofs.YtcepdjlknalmnaaGreatDoor
open Go.RowKit Go.Sort
set_option linter.unusedSimpArgs false
set_option linter.unusedVariables false
attribute [local go_sem ↓] Go.wp_at_zero Go.wp_at_succ

theorem splitB_ne {z : UInt8} (l : List UInt8) : 0 < (splitB z l).length := by
  by_cases h : pre z l < l.length
  · rw [splitB_some h]; simp
  · rw [splitB_none h]; simp
theorem splitB_sub {z : UInt8} : ∀ (n : Nat) (l : List UInt8), l.length ≤ n → ∀ x ∈ splitB z l, ∀ c ∈ x, c ∈ l := by
  intro n
  induction n with
  | zero =>
    intro l hl x hx c hc
    have : l = [] := List.eq_nil_of_length_eq_zero (by omega)
    subst this
    rw [splitB_none (by simp)] at hx
    rw [List.mem_singleton.1 hx] at hc
    exact hc
  | succ n ih =>
    intro l hl x hx c hc
    by_cases h : pre z l < l.length
    · rw [splitB_some h] at hx
      rcases List.mem_cons.1 hx with rfl | hx
      · exact List.mem_of_mem_take hc
      · exact List.mem_of_mem_drop (ih _ (by rw [List.length_drop]; omega) x hx c hc)
    · rw [splitB_none h] at hx
      rw [List.mem_singleton.1 hx] at hc
      exact hc
theorem splitB_len {z : UInt8} : ∀ (n : Nat) (l : List UInt8), l.length ≤ n → (splitB z l).length ≤ l.length + 1 ∧ ∀ x ∈ splitB z l, x.length ≤ l.length := by
  intro n
  induction n with
  | zero =>
    intro l hl
    have : l = [] := List.eq_nil_of_length_eq_zero (by omega)
    subst this
    rw [splitB_none (by simp)]
    simp
  | succ n ih =>
    intro l hl
    by_cases h : pre z l < l.length
    · rw [splitB_some h]
      obtain ⟨h1, h2⟩ := ih (l.drop (pre z l + 1)) (by rw [List.length_drop]; omega)
      rw [List.length_drop] at h1 h2
      refine ⟨by rw [List.length_cons]; omega, fun x hx => ?_⟩
      rcases List.mem_cons.1 hx with rfl | hx
      · rw [List.length_take]; omega
      · have := h2 x hx; omega
    · rw [splitB_none h]
      simp
def sorted (ls : List (List UInt8)) : List (List UInt8) := ls.mergeSort fun x y => decide (x ≤ y)
theorem sort_fr {α : Type} [Inhabited α] (enc : α → Value) (w : World) (n blk off : Nat) (d : Array α) (os : Array Obj) : Fr (fun k => k = blk) w (grow (putRow enc (Sort.ahead w n) blk off d) os) := by
  refine ⟨rfl, rfl, rfl, by simp, fun i hi hs => ?_⟩
  rw [heap_grow_old _ _ (by simpa using hi)]
  unfold putRow mapBlock
  simp only [heap_ahead]
  rw [Array.getElem?_modify, if_neg (fun e => hs e.symm)]
theorem par_sort (B g c : Nat) (ls : List (List UInt8)) (w : World) (hR : RowS w B (.slice (some ⟨g, 0, none⟩) ls.length c) ls) (hsz : ls.length ≤ 1000000000000000) :
    Calls Tryz.prog 137 #[.slice (some ⟨g, 0, none⟩) ls.length c] w fun e w' => e = .returned (.tuple #[]) ∧ (∀ j x, (sorted ls)[j]? = some x → w'.cell? ⟨g, j, none⟩ = some (.string (mk x))) ∧ Fr (fun k => k = g) w w' := by
  have hlt := (Row.base hR g rfl).2
  have hH : Holds encStr w g 0 ls.toArray := fun j hj => by
    have hj' : j < ls.length := by simpa using hj
    have h1 := Row.cell hR (g := g) (k := j) (j := 0) (r := [.string (mk ls[j])]) rfl (by simp [hj']) rfl
    refine ⟨?_, ?_⟩
    · have e : ls.toArray[j]! = ls[j] := by simp [hj']
      rw [e, Nat.zero_add]
      have h1' : w.cell? ⟨g, j, none⟩ = some (.string (mk ls[j])) := by simpa using h1
      exact h1'
    · rw [Nat.zero_add]; exact Row.fz hR rfl
  refine (Tryz.sort_Strings g 0 c ls w hH hlt (by omega)).mono ?_
  rintro e w' ⟨rfl, n, os, rfl⟩
  refine ⟨rfl, fun j x hx => ?_, sort_fr _ _ _ _ _ _ _⟩
  have hjs := (List.getElem?_eq_some_iff.1 hx).1
  have hsl : (sorted ls).length = ls.length := List.length_mergeSort _
  have hP := holds_putRow encStr (Sort.ahead w n) g 0 ls.toArray (sorted ls).toArray (holds_ahead _ _ _ _ _ _ hH) (by simpa using hsl)
  have hG := holds_grow encStr _ os g 0 _ (by simpa using hlt) hP
  have h2 := (hG j (by simpa using hjs)).1
  have e : (sorted ls).toArray[j]! = x := by
    have h3 := (List.getElem?_eq_some_iff.1 hx).2
    simp [hjs, h3]
  rw [e, Nat.zero_add] at h2
  exact h2
set_option maxRecDepth 100000 in
set_option maxHeartbeats 1000000 in
theorem par_fits (s : ByteArray) (w : World) (hs : s.size ≤ 1000000000000) (ha : ∀ c ∈ bs s, c.toNat < 128) (htab : Lib.TabIs Tryz.prog w "strings.asciiSpace" .u8 Lib.asciiSpaceTab) :
    Calls Tryz.prog 116 #[.string s, .string s] w fun e w' => e = .returned (.bool true) ∧ Nw w w' := by
  have hTB := Lib.hid (Lib.tabBelow_of_tabIs htab)
  obtain ⟨ls, hls⟩ : ∃ ls, ls = splitB 59 (bs s) := ⟨_, rfl⟩
  have hlen := splitB_len (z := 59) _ (bs s) (Nat.le_refl _)
  have hsub := splitB_sub (z := 59) _ (bs s) (Nat.le_refl _)
  have hne := splitB_ne (z := 59) (bs s)
  have hS := fun w => par_zzSplit s 59 w (by show _ ≤ 1152921504606846976; omega) hs
  rw [bs_len] at hlen
  rw [← hls] at hlen hsub hne hS
  have HS := Lib.hid hS
  have hso : ∀ x ∈ sorted ls, x.length ≤ s.size ∧ ∀ c ∈ x, c.toNat < 128 := fun x hx => by
    have hx' : x ∈ ls := List.mem_mergeSort.1 hx
    exact ⟨hlen.2 x hx', fun c hc => ha c (hsub x hx' c hc)⟩
  have hsl : (sorted ls).length = ls.length := List.length_mergeSort _
  have HSO := Lib.hid hso
  have hl1 := hlen.1
  clear htab hls hlen hsub hS hso
  go_enter Tryz.func116, Tryz.ntmps116
  go_upto_region 2 with (go_at_call 136; (with_reducible refine (HS.out _).mono ?_); rintro e w1 ⟨v1, rfl, hR1, hN1⟩; obtain ⟨g1, c1, rfl⟩ := Row.form1 hR1 (by simpa using hne))
  simp only [List.length_map] at hR1
  go_upto_region 3 with (go_at_call 136; (with_reducible refine (HS.out _).mono ?_); rintro e w2 ⟨v2, rfl, hR2, hN2⟩; obtain ⟨g2, c2, rfl⟩ := Row.form1 hR2 (by simpa using hne))
  simp only [List.length_map] at hR2
  have k1 := Row.base hR1 g1 rfl
  have k2 := Row.base hR2 g2 rfl
  have hR1' : RowS w2 w.heap.size (.slice (some ⟨g1, 0, none⟩) ls.length c1) ls := Row.nw hR1 hN2
  go_upto_region 6 with (go_at_call 137; (with_reducible refine (par_sort w.heap.size g1 c1 ls w2 hR1' (by omega)).mono ?_); rintro e w3 ⟨rfl, hC3, hF3⟩)
  have hR2' : RowS w3 w1.heap.size (.slice (some ⟨g2, 0, none⟩) ls.length c2) ls := Row.fr hR2 hF3 (fun k hk e => by
    have hk' : g2 = k := by injection hk
    have e' : k = g1 := e
    omega)
  go_upto_region 7 with (go_at_call 137; (with_reducible refine (par_sort w1.heap.size g2 c2 ls w3 hR2' (by omega)).mono ?_); rintro e w4 ⟨rfl, hC4, hF4⟩)
  have hC34 : ∀ j x, (sorted ls)[j]? = some x → w4.cell? ⟨g1, j, none⟩ = some (.string (mk x)) := fun j x hx => hF4.cell (S := fun k => k = g2) (p := ⟨g1, j, none⟩) (fun e => by have e' : g1 = g2 := e; omega) (hC3 j x hx)
  have hq4 : Nw w w4 := (((hN1.trans hN2).frIn hF3 (fun k e => by rw [e]; omega))).frIn hF4 (fun k e => by have := hN1.size; rw [e]; omega)
  have HC3 := Lib.hid hC34
  have HC4 := Lib.hid hC4
  clear hC3 hC34 hC4 hR1 hR2 hR1' hR2' hF3 hF4
  go_wp2
  go_loopw [25] (fun i wr => ∃ k : Nat, k ≤ ls.length ∧ i = .int .i64 k ∧ Nw w4 wr) (fun i _ => ls.length - (intOf i).toNat)
  case atStart => exact ⟨0, Nat.zero_le _, rfl, Nw.refl _⟩
  case round =>
    obtain ⟨k, hk, rfl, hnw⟩ := hrel
    by_cases hlt : k < ls.length
    · obtain ⟨x, hx⟩ : ∃ x, (sorted ls)[k]? = some x := ⟨_, List.getElem?_eq_getElem (by omega)⟩
      have c1' := hnw.cell (HC3.out k x hx)
      have c2' := hnw.cell (HC4.out k x hx)
      have hxx := HSO.out x (List.mem_of_getElem? hx)
      obtain ⟨y, hy⟩ : ∃ y, y = mk x := ⟨_, rfl⟩
      have hT : ∀ w5, Nw w4 w5 → Calls Tryz.prog 138 #[.string y] w5 fun e w' => e = .returned (.string ⟨(Lib.trimSpace y.data.toList).toArray⟩) ∧ w' = Lib.bytesWorld w5 5 y := fun w5 hn5 =>
        Tryz.strings_TrimSpace y w5 (by rw [hy, mk_size]; omega) (fun j b hb => by rw [hy] at hb; exact hxx.2 b (List.mem_of_getElem? hb)) (hTB.out w5 (hq4.trans hn5))
      rw [← hy] at c1' c2'
      have HT := Lib.hid hT
      have hb1 := Nw.bytes wr 5 y
      have c3' := hb1.cell c2'
      have hb2 := hb1.trans (Nw.bytes (Lib.bytesWorld wr 5 y) 5 y)
      obtain ⟨t, ht⟩ : ∃ t : ByteArray, t = ⟨(Lib.trimSpace y.data.toList).toArray⟩ := ⟨_, rfl⟩
      rw [← ht] at HT
      clear hT hy hx hxx ht
      go_upto_region 11 with (go_at_call 138; (with_reducible refine (HT.out _ ?_).mono ?_); (focus exact hnw); rintro e w5 ⟨rfl, rfl⟩)
      go_wp2_with (go_at_call 138; (with_reducible refine (HT.out _ ?_).mono ?_); (focus exact hnw.trans hb1); rintro e w5 ⟨rfl, rfl⟩)
      exact ⟨⟨k + 1, by omega, by go_num, hnw.trans hb2⟩, by simp [intOf]; omega⟩
    · go_wp2
      go_ret
      exact ⟨rfl, hq4.trans hnw⟩
end Go.Proofs.YtcepdjlknalmnaaGreatDoor

/- A bandwidth's text. -/
import Derived.Test.YtcepdjlknalmnaaGreatDoorRepC
import Derived.Test.YtcepdjlknalmnaaGreatDoorNum
import Derived.Test.YtcepdjlknalmnaaGreatDoorSplit
import Derived.Test.YtcepdjlknalmnaaGreatDoorStepE
namespace Go.Proofs.YtcepdjlknalmnaaGreatDoor
open Go.RowKit
set_option linter.unusedSimpArgs false
set_option linter.unusedVariables false

theorem pre_all {z : UInt8} : ∀ {l r : List UInt8}, (∀ c ∈ l, c ≠ z) → pre z (l ++ z :: r) = l.length
  | [], r, _ => by rw [List.nil_append, pre_eqv rfl]; rfl
  | c :: l, r, h => by rw [List.cons_append, pre_cons (h c List.mem_cons_self), pre_all (fun c hc => h c (List.mem_cons_of_mem _ hc))]; rfl
theorem pre_all' {z : UInt8} : ∀ {l : List UInt8}, (∀ c ∈ l, c ≠ z) → pre z l = l.length
  | [], _ => rfl
  | c :: l, h => by rw [pre_cons (h c List.mem_cons_self), pre_all' (fun c hc => h c (List.mem_cons_of_mem _ hc))]; rfl
theorem splitB_app {z : UInt8} {l r : List UInt8} (h : ∀ c ∈ l, c ≠ z) : splitB z (l ++ z :: r) = l :: splitB z r := by
  have hp := pre_all (r := r) h
  rw [splitB_some (by rw [hp]; simp), hp]
  congr 1
  · simp
  · congr 1
    rw [show l.length + 1 = (l ++ [z]).length by simp, show l ++ z :: r = (l ++ [z]) ++ r by simp, List.drop_left]
theorem splitB_all {z : UInt8} {l : List UInt8} (h : ∀ c ∈ l, c ≠ z) : splitB z l = [l] := by
  rw [splitB_none]
  rw [pre_all' h]; omega
theorem dec_plain {n : Int} : ∀ c ∈ (Lib.decDigits (Int.toNat n)), 48 ≤ c.toNat ∧ c.toNat ≤ 57 := fun c hc => dec_digit _ c hc
def bwHd (b : Bwd) : List UInt8 := (if b.x then [88, 45] else []) ++ bs b.ty
theorem bwBd_eq (b : Bwd) : bwBd b = bwHd b ++ 58 :: (Lib.decDigits (Int.toNat b.n)) := by simp [bwBd, bwHd]
theorem isIn_mem {s : ByteArray} {xs : List ByteArray} (h : isIn s xs = true) : ∃ x ∈ xs, bs x = bs s := by
  unfold isIn at h
  obtain ⟨x, hx, he⟩ := List.any_eq_true.1 h
  exact ⟨x, hx, by
    rw [ByteArray.toList_eq, ByteArray.toList_eq] at he
    exact eq_of_beq he⟩
theorem word_plain {s : ByteArray} (h : word s = true) : ∀ c ∈ bs s, c ≠ 58 := by
  unfold word at h
  rw [Bool.and_eq_true] at h
  intro c hc e
  subst e
  have := List.all_eq_true.1 h.1 _ hc
  revert this
  decide
theorem bw_plain {b : Bwd} (h : bwB b = true) : (∀ c ∈ bwHd b, c ≠ 58) ∧ Lib.hasPrefix (bwHd b) [88, 45] = b.x ∧ (b.x = false → isIn b.ty bwTypes = true) := by
  unfold bwB at h
  have h := (Bool.and_eq_true .. ▸ h).1
  rw [Bool.or_eq_true, Bool.and_eq_true] at h
  have hp : ∀ c ∈ bs b.ty, c ≠ 58 := by
    rcases h with h | h
    · obtain ⟨x, hx, he⟩ := isIn_mem h
      rw [← he]
      exact (show ∀ x ∈ bwTypes, ∀ c ∈ bs x, c ≠ 58 by decide) x hx
    · exact word_plain h.2
  refine ⟨fun c hc => ?_, ?_, fun hx => ?_⟩
  · unfold bwHd at hc
    rcases List.mem_append.1 hc with h1 | h1
    · split at h1
      · rcases List.mem_cons.1 h1 with rfl | h1
        · decide
        · rcases List.mem_cons.1 h1 with rfl | h1
          · decide
          · cases h1
      · cases h1
    · exact hp c h1
  · cases hx : b.x with
    | true => simp [bwHd, hx, Lib.hasPrefix, List.isPrefixOf]
    | false =>
      have h1 : isIn b.ty bwTypes = true := by rcases h with h | h; exact h; exact absurd h.1 (by rw [hx]; decide)
      obtain ⟨x, hx1, he⟩ := isIn_mem h1
      simp only [bwHd, hx, Bool.false_eq_true, if_false, List.nil_append]
      rw [← he]
      exact (show ∀ x ∈ bwTypes, Lib.hasPrefix (bs x) [88, 45] = false by decide) x hx1
  · rcases h with h | h
    · exact h
    · exact absurd h.1 (by rw [hx]; decide)
def bwArr (w : World) : World := w.alloc (.cells #[.string ⟨#[67, 84]⟩, .string ⟨#[65, 83]⟩, .string ⟨#[84, 73, 65, 83]⟩, .string ⟨#[82, 83]⟩, .string ⟨#[82, 82]⟩] 9)
theorem par_anyOf_bw (x : ByteArray) (g : Nat) (w : World) (hb : Blk w g [.string ⟨#[67, 84]⟩, .string ⟨#[65, 83]⟩, .string ⟨#[84, 73, 65, 83]⟩, .string ⟨#[82, 83]⟩, .string ⟨#[82, 82]⟩] 9) (hi : isIn x bwTypes = true) : Calls Tryz.prog 174 #[.string x, .slice (some ⟨g, 0, none⟩) 5 5] w fun e w' => e = .returned (.bool true) ∧ w = w' :=
  (par_anyOf x bwTypes _ w (sl_blk hb (wf_short (by decide)) rfl (by decide) (by decide))).mono (fun _ _ h => ⟨by rw [h.1, hi], h.2⟩)
set_option maxRecDepth 100000 in
set_option maxHeartbeats 1000000 in
theorem par_bw (b : Bwd) (w : World) (hb : bwB b = true) (hw : WfStr b.ty ∧ WfInt .u64 b.n) (hsz : (bwBd b).length ≤ 1000000000000) :
    Calls Tryz.prog 231 #[.string (mk (bwBd b))] w fun e w' => ∃ g, e = .returned (.tuple #[.pointer (some ⟨g, 0, none⟩), .nilIface]) ∧ w.heap.size ≤ g ∧ Blk w' g (encBwd b) 198 ∧ Nw w w' := by
  obtain ⟨hp, hpre, hin⟩ := bw_plain hb
  have hsp : splitB 58 (bs (mk (bwBd b))) = [bwHd b, (Lib.decDigits (Int.toNat b.n))] := by
    rw [bs_mk, bwBd_eq, splitB_app hp, splitB_all (fun c hc e => by have := (dec_plain c hc).2; rw [e] at this; exact absurd this (by decide))]
  have hS := par_zzSplit (mk (bwBd b)) 58 w (show (mk (bwBd b)).size ≤ strMax by rw [mk_size]; exact Nat.le_trans hsz (by decide)) (by rw [mk_size]; omega)
  rw [hsp] at hS
  obtain ⟨x, hx⟩ : ∃ x, x = mk (bwBd b) := ⟨_, rfl⟩
  obtain ⟨x0, hx0⟩ : ∃ x, x = mk (bwHd b) := ⟨_, rfl⟩
  obtain ⟨x1, hx1⟩ : ∃ x, x = mk ((Lib.decDigits (Int.toNat b.n))) := ⟨_, rfl⟩
  have hU := fun w1 => par_ParseUint b.n w1 hw.2
  have hpre0 : Lib.hasPrefix x0.data.toList [88, 45] = b.x := by rw [hx0]; exact hpre
  rw [← hx1] at hU
  rw [← hx] at hS ⊢
  have HX0 := Lib.hid hx0
  have HX1 := Lib.hid hx1
  clear hx hx1 hsp hx0
  go_enter Tryz.func231, Tryz.ntmps231
  go_upto_region 2 with (go_at_call 136; (with_reducible refine hS.mono ?_); rintro e w1 ⟨v1, rfl, hR, hN1⟩; obtain ⟨g, c, rfl⟩ := Row.form1 hR (by simp); have c0 : w1.cell? ⟨g, 0, none⟩ = some (.string x0) := (by rw [HX0.out]; exact hR.cell (k := 0) (j := 0) rfl rfl rfl); have c1 : w1.cell? ⟨g, 1, none⟩ = some (.string x1) := (by rw [HX1.out]; exact hR.cell (k := 1) (j := 0) rfl rfl rfl); have f0 := hR.fz (g := g) (k := 0) rfl)
  go_upto_region 5 with (go_at_call 238; (with_reducible refine (Tryz.strings_HasPrefix _ _ _).mono ?_); rintro e w2 ⟨rfl, h0⟩; subst h0; rw [hpre0])
  obtain ⟨hgw, hgl⟩ := hR.base g rfl
  cases hx : b.x with
  | true =>
    have ht : (⟨(Lib.trimPrefix x0.data.toList [88, 45]).toArray⟩ : ByteArray) = b.ty := by
      unfold Lib.trimPrefix
      rw [hpre0, if_pos hx, HX0.out, mk_list]
      simp only [bwHd, hx, if_true]
      rfl
    go_upto_region 9 with (go_at_call 239; (with_reducible refine (Tryz.strings_TrimPrefix _ _ _).mono ?_); rintro e w3 ⟨rfl, h0⟩; subst h0; rw [ht])
    obtain ⟨w4, hw4⟩ : ∃ w4, w4 = w3.setCell ⟨g, 0, none⟩ (.string b.ty) := ⟨_, rfl⟩
    have hR4 : Row w4 w.heap.size 9 1 (.slice (some ⟨g, 0, none⟩) 2 c) ([[.string x0], [.string x1]].set 0 ([.string x0].set 0 (.string b.ty))) := by
      rw [hw4]
      have hR' : Row w3 w.heap.size 9 1 (.slice (some ⟨g, 0, none⟩) 2 c) [[.string x0], [.string x1]] := by rw [HX0.out, HX1.out]; exact hR
      exact hR'.set (g := g) (k := 0) (j := 0) rfl rfl (by decide) rfl
    have d0 : w4.cell? ⟨g, 0, none⟩ = some (.string b.ty) := hR4.cell (k := 0) (j := 0) rfl rfl rfl
    have d1 : w4.cell? ⟨g, 1, none⟩ = some (.string x1) := hR4.cell (k := 1) (j := 0) rfl rfl rfl
    have hN4 : Nw w w4 := by rw [hw4]; exact hN1.setCell hgw _
    have hg4 : g < w4.heap.size := (hR4.base g rfl).2
    rw [← hw4]
    clear hw4 hR hR4 c0 c1 f0 hN1 hgl
    go_upto_region 12 with (go_at_call 240; (with_reducible refine (hU _).mono ?_); rintro e w5 ⟨rfl, q5⟩; have e0 := q5.cell d0)
    go_wp2
    go_ret2
    exact ⟨_, rfl, Nat.le_trans hN4.size q5.size, by unfold encBwd; rw [hx]; exact Blk.made _ _ 198, (hN4.trans q5).alloc _⟩
  | false =>
    have h00 : x0 = b.ty := by rw [HX0.out]; unfold bwHd; rw [hx]; rfl
    go_upto_region 9 with (go_at_call 174; (with_reducible refine (par_anyOf_bw b.ty _ _ ?_ (hin hx)).mono ?_); (focus exact Blk.made' rfl _ 9); rintro e w3 ⟨rfl, rfl⟩)
    obtain ⟨w4, hw4⟩ : ∃ w4, w4 = w2.alloc (.cells #[.string ⟨#[67, 84]⟩, .string ⟨#[65, 83]⟩, .string ⟨#[84, 73, 65, 83]⟩, .string ⟨#[82, 83]⟩, .string ⟨#[82, 82]⟩] 9) := ⟨_, rfl⟩
    have q4 : Nw w2 w4 := by rw [hw4]; exact (Nw.refl _).alloc _
    have d0 : w4.cell? ⟨g, 0, none⟩ = some (.string b.ty) := by rw [← h00]; exact q4.cell c0
    have d1 : w4.cell? ⟨g, 1, none⟩ = some (.string x1) := q4.cell c1
    have hN4 : Nw w w4 := hN1.trans q4
    have hg4 : g < w4.heap.size := Nat.lt_of_lt_of_le hgl q4.size
    rw [← hw4]
    clear hw4 hR c0 c1 f0 hN1 hgl
    go_upto_region 12 with (go_at_call 240; (with_reducible refine (hU _).mono ?_); rintro e w5 ⟨rfl, q5⟩; have e0 := q5.cell d0)
    go_wp2
    go_ret2
    exact ⟨_, rfl, Nat.le_trans hN4.size q5.size, by unfold encBwd; rw [hx]; exact Blk.made _ _ 198, (hN4.trans q5).alloc _⟩
end Go.Proofs.YtcepdjlknalmnaaGreatDoor

/- The thin package's small conversions to the package: texts, addresses, numbers. Written by a small program of this claim's own (gensca). -/
import Derived.Test.YtcepdjlknalmnaaGreatDoorSdp
import Derived.Test.YtcepdjlknalmnaaGreatDoorTxtD
import Derived.Test.YtcepdjlknalmnaaGreatDoorSegs
import Derived.Test.YtcepdjlknalmnaaGreatDoorOwn
namespace Go.Proofs.YtcepdjlknalmnaaGreatDoor
open Go.RowKit
set_option linter.unusedSimpArgs false
set_option linter.unusedVariables false
attribute [local go_sem ↓] Go.wp_at_zero Go.wp_at_succ
theorem foot_blk {w : World} {P : World → Prop} {l : List Value} {t : TypeId} (h : ∀ W, Blk W w.heap.size l t → P W) : Foot P (w.alloc (.cells l.toArray t)) (fun k => w.heap.size ≤ k) := fun W hW =>
 h W ((hW _ (Nat.le_refl _) (Blk.lt (Blk.made w l t))).trans (Blk.made w l t))
theorem foot_any {w : World} {P : World → Prop} {ok : Nat → Prop} (h : ∀ W, P W) : Foot P w ok := fun W _ => h W
set_option maxRecDepth 100000 in
theorem to_info (xs : List ByteArray) (v : Value) (w : World) (h : tyStr.Sl w xs v) (hl : xs.length ≤ 1) : Calls Tryz.prog 77 #[v] w fun e w' => ∃ p, e = .returned p ∧ Foot (fun W => tyStr.Pt W xs p) w' (fun k => w.heap.size ≤ k) ∧ Nw w w' := by
 obtain ⟨A, c, rfl⟩ := Ty.Sl_form h
 match xs, hl with
 | [], _ =>
  go_enter Tryz.func77, Tryz.ntmps77
  go_wp2
  go_ret
  exact ⟨_, rfl, foot_any (fun W => .inl ⟨rfl, rfl⟩), by (repeat (first | (with_reducible assumption) | (with_reducible exact Nw.refl _) | (with_reducible refine Nw.drew ?_) | (with_reducible refine Nw.drewN ?_ _) | (with_reducible refine Nw.alloc ?_ _)))⟩
 | [y], _ =>
  obtain ⟨b, o, rfl, ha⟩ := Ty.Sl_at h 0 (by simp)
  obtain ⟨cs, ⟨rfl, hwf⟩, hx⟩ := ha 0 y rfl
  have c0 := hx 0 _ rfl
  simp only [tyStr, tyInt, Ty.flat, Nat.mul_one, Nat.zero_mul, Nat.mul_zero, Nat.add_zero, Nat.zero_add] at c0
  go_enter Tryz.func77, Tryz.ntmps77
  go_wp2
  go_ret
  exact ⟨_, rfl, foot_blk (l := [.string y]) (t := 162) (fun W hB => .inr ⟨y, _, rfl, rfl, Ty.At_blk ⟨rfl, hwf⟩ hB⟩), (Nw.refl w).alloc _⟩
set_option maxRecDepth 100000 in
theorem to_mail (xs : List ByteArray) (v : Value) (w : World) (h : tyStr.Sl w xs v) (hl : xs.length ≤ 1) : Calls Tryz.prog 79 #[v] w fun e w' => ∃ p, e = .returned p ∧ Foot (fun W => tyStr.Pt W xs p) w' (fun k => w.heap.size ≤ k) ∧ Nw w w' := by
 obtain ⟨A, c, rfl⟩ := Ty.Sl_form h
 match xs, hl with
 | [], _ =>
  go_enter Tryz.func79, Tryz.ntmps79
  go_wp2
  go_ret
  exact ⟨_, rfl, foot_any (fun W => .inl ⟨rfl, rfl⟩), by (repeat (first | (with_reducible assumption) | (with_reducible exact Nw.refl _) | (with_reducible refine Nw.drew ?_) | (with_reducible refine Nw.drewN ?_ _) | (with_reducible refine Nw.alloc ?_ _)))⟩
 | [y], _ =>
  obtain ⟨b, o, rfl, ha⟩ := Ty.Sl_at h 0 (by simp)
  obtain ⟨cs, ⟨rfl, hwf⟩, hx⟩ := ha 0 y rfl
  have c0 := hx 0 _ rfl
  simp only [tyStr, tyInt, Ty.flat, Nat.mul_one, Nat.zero_mul, Nat.mul_zero, Nat.add_zero, Nat.zero_add] at c0
  go_enter Tryz.func79, Tryz.ntmps79
  go_wp2
  go_ret
  exact ⟨_, rfl, foot_blk (l := [.string y]) (t := 165) (fun W hB => .inr ⟨y, _, rfl, rfl, Ty.At_blk ⟨rfl, hwf⟩ hB⟩), (Nw.refl w).alloc _⟩
set_option maxRecDepth 100000 in
theorem to_phone (xs : List ByteArray) (v : Value) (w : World) (h : tyStr.Sl w xs v) (hl : xs.length ≤ 1) : Calls Tryz.prog 80 #[v] w fun e w' => ∃ p, e = .returned p ∧ Foot (fun W => tyStr.Pt W xs p) w' (fun k => w.heap.size ≤ k) ∧ Nw w w' := by
 obtain ⟨A, c, rfl⟩ := Ty.Sl_form h
 match xs, hl with
 | [], _ =>
  go_enter Tryz.func80, Tryz.ntmps80
  go_wp2
  go_ret
  exact ⟨_, rfl, foot_any (fun W => .inl ⟨rfl, rfl⟩), by (repeat (first | (with_reducible assumption) | (with_reducible exact Nw.refl _) | (with_reducible refine Nw.drew ?_) | (with_reducible refine Nw.drewN ?_ _) | (with_reducible refine Nw.alloc ?_ _)))⟩
 | [y], _ =>
  obtain ⟨b, o, rfl, ha⟩ := Ty.Sl_at h 0 (by simp)
  obtain ⟨cs, ⟨rfl, hwf⟩, hx⟩ := ha 0 y rfl
  have c0 := hx 0 _ rfl
  simp only [tyStr, tyInt, Ty.flat, Nat.mul_one, Nat.zero_mul, Nat.mul_zero, Nat.add_zero, Nat.zero_add] at c0
  go_enter Tryz.func80, Tryz.ntmps80
  go_wp2
  go_ret
  exact ⟨_, rfl, foot_blk (l := [.string y]) (t := 167) (fun W hB => .inr ⟨y, _, rfl, rfl, Ty.At_blk ⟨rfl, hwf⟩ hB⟩), (Nw.refl w).alloc _⟩
set_option maxRecDepth 100000 in
theorem to_key (xs : List ByteArray) (v : Value) (w : World) (h : tyStr.Sl w xs v) (hl : xs.length ≤ 1) : Calls Tryz.prog 83 #[v] w fun e w' => ∃ p, e = .returned p ∧ Foot (fun W => tyStr.Pt W xs p) w' (fun k => w.heap.size ≤ k) ∧ Nw w w' := by
 obtain ⟨A, c, rfl⟩ := Ty.Sl_form h
 match xs, hl with
 | [], _ =>
  go_enter Tryz.func83, Tryz.ntmps83
  go_wp2
  go_ret
  exact ⟨_, rfl, foot_any (fun W => .inl ⟨rfl, rfl⟩), by (repeat (first | (with_reducible assumption) | (with_reducible exact Nw.refl _) | (with_reducible refine Nw.drew ?_) | (with_reducible refine Nw.drewN ?_ _) | (with_reducible refine Nw.alloc ?_ _)))⟩
 | [y], _ =>
  obtain ⟨b, o, rfl, ha⟩ := Ty.Sl_at h 0 (by simp)
  obtain ⟨cs, ⟨rfl, hwf⟩, hx⟩ := ha 0 y rfl
  have c0 := hx 0 _ rfl
  simp only [tyStr, tyInt, Ty.flat, Nat.mul_one, Nat.zero_mul, Nat.mul_zero, Nat.add_zero, Nat.zero_add] at c0
  go_enter Tryz.func83, Tryz.ntmps83
  go_wp2
  go_ret
  exact ⟨_, rfl, foot_blk (l := [.string y]) (t := 171) (fun W hB => .inr ⟨y, _, rfl, rfl, Ty.At_blk ⟨rfl, hwf⟩ hB⟩), (Nw.refl w).alloc _⟩
set_option maxRecDepth 100000 in
theorem to_url (xs : List ByteArray) (v : Value) (w : World) (h : tyStr.Sl w xs v) (hl : xs.length ≤ 1) : Calls Tryz.prog 78 #[v] w fun e w' => ∃ p, e = .returned p ∧ Foot (fun W => tyStr.Pt W xs p) w' (fun k => w.heap.size ≤ k) ∧ Nw w w' := by
 obtain ⟨A, c, rfl⟩ := Ty.Sl_form h
 match xs, hl with
 | [], _ =>
  go_enter Tryz.func78, Tryz.ntmps78
  go_wp2
  go_ret
  exact ⟨_, rfl, foot_any (fun W => .inl ⟨rfl, rfl⟩), by (repeat (first | (with_reducible assumption) | (with_reducible exact Nw.refl _) | (with_reducible refine Nw.drew ?_) | (with_reducible refine Nw.drewN ?_ _) | (with_reducible refine Nw.alloc ?_ _)))⟩
 | [y], _ =>
  obtain ⟨b, o, rfl, ha⟩ := Ty.Sl_at h 0 (by simp)
  obtain ⟨cs, ⟨rfl, hwf⟩, hx⟩ := ha 0 y rfl
  have c0 := hx 0 _ rfl
  simp only [tyStr, tyInt, Ty.flat, Nat.mul_one, Nat.zero_mul, Nat.mul_zero, Nat.add_zero, Nat.zero_add] at c0
  go_enter Tryz.func78, Tryz.ntmps78
  go_wp2
  go_ret
  exact ⟨_, rfl, foot_blk (l := [.string y]) (t := 212) (fun W hB => .inr ⟨y, _, rfl, rfl, Ty.At_blk ⟨rfl, hwf⟩ hB⟩), (Nw.refl w).alloc _⟩
set_option maxRecDepth 100000 in
theorem to_num (xs : List Int) (v : Value) (w : World) (h : tyI.Sl w xs v) (hl : xs.length ≤ 1) : Calls Tryz.prog 125 #[v] w fun e w' => ∃ p, e = .returned p ∧ Foot (fun W => tyI.Pt W xs p) w' (fun k => w.heap.size ≤ k) ∧ Nw w w' := by
 obtain ⟨A, c, rfl⟩ := Ty.Sl_form h
 match xs, hl with
 | [], _ =>
  go_enter Tryz.func125, Tryz.ntmps125
  go_wp2
  go_ret
  exact ⟨_, rfl, foot_any (fun W => .inl ⟨rfl, rfl⟩), by (repeat (first | (with_reducible assumption) | (with_reducible exact Nw.refl _) | (with_reducible refine Nw.drew ?_) | (with_reducible refine Nw.drewN ?_ _) | (with_reducible refine Nw.alloc ?_ _)))⟩
 | [y], _ =>
  obtain ⟨b, o, rfl, ha⟩ := Ty.Sl_at h 0 (by simp)
  obtain ⟨cs, ⟨rfl, hwf⟩, hx⟩ := ha 0 y rfl
  have c0 := hx 0 _ rfl
  simp only [tyI, tyInt, Ty.flat, Nat.mul_one, Nat.zero_mul, Nat.mul_zero, Nat.add_zero, Nat.zero_add] at c0
  go_enter Tryz.func125, Tryz.ntmps125
  go_wp2
  go_ret
  exact ⟨_, rfl, foot_blk (l := [.int .i64 y]) (t := 3) (fun W hB => .inr ⟨y, _, rfl, rfl, Ty.At_blk ⟨rfl, hwf⟩ hB⟩), (Nw.refl w).alloc _⟩
theorem infS199 : (Tryz.prog.info? 199).map (fun i => (i.zero, i.size, i.bytes)) = some (some (.agg #[.string ⟨#[]⟩, .string ⟨#[]⟩]), 2, 32) := by kernel_rfl
theorem infS198 : (Tryz.prog.info? 198).map (fun i => (i.zero, i.size, i.bytes)) = some (some (.agg #[.bool false, .string ⟨#[]⟩, .int .u64 0]), 3, 32) := by kernel_rfl
set_option maxRecDepth 100000 in
theorem to_att (xs : List Att) (v : Value) (w : World) (h : tyAtt.Sl w xs v) (hl : xs.length ≤ 2147483647) :
 Calls Tryz.prog 84 #[v] w fun e w' => ∃ v', e = .returned v' ∧ Foot (fun W => tyAtt.Sl W xs v') w' (fun k => w.heap.size ≤ k) ∧ Nw w w' := by
 obtain ⟨A, c, rfl⟩ := Ty.Sl_form h
 go_enter Tryz.func84, Tryz.ntmps84
 go_wp2
 go_loopw [3, 8] (fun out i wr => ∃ k : Nat, k ≤ xs.length ∧ i = .int .i64 k ∧ RowT tyAtt wr w.heap.size 199 out (xs.take k) (fun _ => False) ∧ Nw w wr) (fun out i _ => xs.length - (intOf i).toNat)
 case atStart => exact ⟨0, Nat.zero_le _, rfl, RowT.nil _ _ _ _ _, Nw.refl _⟩
 case round =>
  obtain ⟨k, hk, rfl, hrow, hnw⟩ := hrel
  by_cases hlt : k < xs.length
  · obtain ⟨b, o, rfl, ha⟩ := Ty.Sl_at h k hlt
    obtain ⟨cs, ⟨rfl, hwf⟩, hx⟩ := ha k _ (List.getElem?_eq_getElem hlt)
    have c0 := hnw.cell (hx 0 _ rfl)
    have c1 := hnw.cell (hx 1 _ rfl)
    simp only [tyAtt, Ty.flat, Nat.add_zero] at c0 c1
    have HT := Lib.hid (take_snoc hlt)
    have hlk : (xs.take k).length ≤ k := by simp; omega
    have HF : ∀ (W : World) (ok : Nat → Prop), Foot (fun W => tyAtt.rel W xs[k] [.string xs[k].key, .string xs[k].val]) W ok := fun W ok => Foot.flat (fun _ => ⟨rfl, hwf⟩)
    clear hx ha
    go_wp2_with ((refine at_list rfl fun K hK => ?_; (with_reducible refine rowT_append (ops := #[]) (.tmp 12) (.tmp 18) 112 199 (.agg #[.string ⟨#[]⟩, .string ⟨#[]⟩]) 32 ?_ Tryz.underlying112 infS199 ?_ ?_ u3 (xs.take k) xs[k] [.string xs[k].key, .string xs[k].val] ?_ ?_ ?_ ?_ (HF _ _) (hrow.nw ((Nw.refl _).alloc _)) (hnw.alloc _) ?_ ?_ ?_); (focus rfl); (focus rfl); (focus decide); (focus rfl); rotate_left 1; (focus rfl); (focus simp only [World.alloc, Array.size_push]); (focus omega); (focus omega); intro v1 w1 hr1 hn1 hf1 ho1; refine hK _ _ ?_))
    exact ⟨⟨k + 1, by omega, by go_num, by rw [HT.out]; exact hr1, hn1⟩, by simp [intOf]; omega⟩
  · rw [List.take_of_length_le (by omega)] at hrow
    go_wp2
    go_ret
    exact ⟨_, rfl, (hrow.foot (by omega)).mono (fun k _ e => e.elim (fun e => e.elim) (fun e => e)), hnw⟩
set_option maxRecDepth 100000 in
theorem to_bw (xs : List Bwd) (v : Value) (w : World) (h : tyBwd.Sl w xs v) (hl : xs.length ≤ 2147483647) :
 Calls Tryz.prog 82 #[v] w fun e w' => ∃ v', e = .returned v' ∧ Foot (fun W => tyBwd.Sl W xs v') w' (fun k => w.heap.size ≤ k) ∧ Nw w w' := by
 obtain ⟨A, c, rfl⟩ := Ty.Sl_form h
 go_enter Tryz.func82, Tryz.ntmps82
 go_wp2
 go_loopw [3, 8] (fun out i wr => ∃ k : Nat, k ≤ xs.length ∧ i = .int .i64 k ∧ RowT tyBwd wr w.heap.size 198 out (xs.take k) (fun _ => False) ∧ Nw w wr) (fun out i _ => xs.length - (intOf i).toNat)
 case atStart => exact ⟨0, Nat.zero_le _, rfl, RowT.nil _ _ _ _ _, Nw.refl _⟩
 case round =>
  obtain ⟨k, hk, rfl, hrow, hnw⟩ := hrel
  by_cases hlt : k < xs.length
  · obtain ⟨b, o, rfl, ha⟩ := Ty.Sl_at h k hlt
    obtain ⟨cs, ⟨rfl, hwf⟩, hx⟩ := ha k _ (List.getElem?_eq_getElem hlt)
    have c0 := hnw.cell (hx 0 _ rfl)
    have c1 := hnw.cell (hx 1 _ rfl)
    have c2 := hnw.cell (hx 2 _ rfl)
    simp only [tyBwd, Ty.flat, Nat.add_zero] at c0 c1 c2
    have HT := Lib.hid (take_snoc hlt)
    have hlk : (xs.take k).length ≤ k := by simp; omega
    have HF : ∀ (W : World) (ok : Nat → Prop), Foot (fun W => tyBwd.rel W xs[k] [.bool xs[k].x, .string xs[k].ty, .int .u64 xs[k].n]) W ok := fun W ok => Foot.flat (fun _ => ⟨rfl, hwf⟩)
    clear hx ha
    go_wp2_with ((refine at_list rfl fun K hK => ?_; (with_reducible refine rowT_append (ops := #[]) (.tmp 12) (.tmp 20) 108 198 (.agg #[.bool false, .string ⟨#[]⟩, .int .u64 0]) 32 ?_ Tryz.underlying108 infS198 ?_ ?_ u3 (xs.take k) xs[k] [.bool xs[k].x, .string xs[k].ty, .int .u64 xs[k].n] ?_ ?_ ?_ ?_ (HF _ _) (hrow.nw ((Nw.refl _).alloc _)) (hnw.alloc _) ?_ ?_ ?_); (focus rfl); (focus rfl); (focus decide); (focus rfl); rotate_left 1; (focus rfl); (focus simp only [World.alloc, Array.size_push]); (focus omega); (focus omega); intro v1 w1 hr1 hn1 hf1 ho1; refine hK _ _ ?_))
    exact ⟨⟨k + 1, by omega, by go_num, by rw [HT.out]; exact hr1, hn1⟩, by simp [intOf]; omega⟩
  · rw [List.take_of_length_le (by omega)] at hrow
    go_wp2
    go_ret
    exact ⟨_, rfl, (hrow.foot (by omega)).mono (fun k _ e => e.elim (fun e => e.elim) (fun e => e)), hnw⟩
end Go.Proofs.YtcepdjlknalmnaaGreatDoor

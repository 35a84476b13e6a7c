/- Laws of this claim. -/
import Derived.Test.YtcepdjlknalmnaaGreatDoorShelf
import Derived.Test.YtcepdjlknalmnaaGreatDoorStepE
set_option linter.unusedSimpArgs false
set_option linter.unusedVariables false
namespace Go.Proofs.YtcepdjlknalmnaaGreatDoor
open Tryz
open Go.RowKit
attribute [local go_sem ↓] Go.wp_at_zero Go.wp_at_succ
theorem sl_one {α : Type} {T : Ty α} {w : World} {g : Nat} {t : TypeId} {x : α} {cs : List Value} (hb : Blk w g cs t) (hr : T.rel w x cs) : T.Sl w [x] (.slice (some ⟨g, 0, none⟩) 1 1) :=
 ⟨by simp, .inr ⟨by simp, g, 0, 1, rfl, Nat.le_refl _, Ty.At_blk hr hb⟩⟩
theorem qD0 {α : Type} {T : Ty α} {w : World} {g : Nat} {t : TypeId} {x : α} {cs : List Value} {ok : Nat -> Prop} (hb : Blk w g cs t) (hg : ok g) (hr : qAq (fun W => T.rel W x cs) w ok) : qAq (fun W => T.Sl W [x] (.slice (some ⟨g, 0, none⟩) 1 1)) w ok :=
 fun W hW => sl_one (show Blk W g cs t from (hW g hg hb.lt).trans hb) (hr W hW)
theorem qIm (xs : List ByteArray) (v : Value) (w : World) (h : qAd.Pt w xs v) : Calls prog 67 #[v] w fun e w' => ∃ v', e = .returned v' /\ qAq (fun W => qAd.Sl W xs v') w' (fun k => w.heap.size <= k) /\ Nw w w' := by
 rcases h with ⟨rfl, rfl⟩ | ⟨x, b, rfl, rfl, ha⟩
 · go_enter func67, ntmps67
   go_wp2
   go_ret
   exact ⟨_, rfl, fun W _ => Ty.Sl_nil _ _, Nw.refl _⟩
 obtain ⟨cs, ⟨rfl, hwf⟩, hx⟩ := ha 0 x rfl
 have c0 := hx 0 _ rfl
 simp only [qAd, Ty.flat, Nat.mul_one, Nat.add_zero] at c0
 go_enter func67, ntmps67
 go_wp2
 go_ret
 exact ⟨_, rfl, qD0 (T := qAd) (Blk.made w [.string x] 9) (Nat.le_refl _) (fun _ _ => ⟨rfl, hwf⟩), (Nw.refl w).alloc _⟩
theorem qL4 (xs : List ByteArray) (v : Value) (w : World) (h : qAd.Pt w xs v) : Calls prog 69 #[v] w fun e w' => ∃ v', e = .returned v' /\ qAq (fun W => qAd.Sl W xs v') w' (fun k => w.heap.size <= k) /\ Nw w w' := by
 rcases h with ⟨rfl, rfl⟩ | ⟨x, b, rfl, rfl, ha⟩
 · go_enter func69, ntmps69
   go_wp2
   go_ret
   exact ⟨_, rfl, fun W _ => Ty.Sl_nil _ _, Nw.refl _⟩
 obtain ⟨cs, ⟨rfl, hwf⟩, hx⟩ := ha 0 x rfl
 have c0 := hx 0 _ rfl
 simp only [qAd, Ty.flat, Nat.mul_one, Nat.add_zero] at c0
 go_enter func69, ntmps69
 go_wp2
 go_ret
 exact ⟨_, rfl, qD0 (T := qAd) (Blk.made w [.string x] 9) (Nat.le_refl _) (fun _ _ => ⟨rfl, hwf⟩), (Nw.refl w).alloc _⟩
theorem qL5 (xs : List ByteArray) (v : Value) (w : World) (h : qAd.Pt w xs v) : Calls prog 70 #[v] w fun e w' => ∃ v', e = .returned v' /\ qAq (fun W => qAd.Sl W xs v') w' (fun k => w.heap.size <= k) /\ Nw w w' := by
 rcases h with ⟨rfl, rfl⟩ | ⟨x, b, rfl, rfl, ha⟩
 · go_enter func70, ntmps70
   go_wp2
   go_ret
   exact ⟨_, rfl, fun W _ => Ty.Sl_nil _ _, Nw.refl _⟩
 obtain ⟨cs, ⟨rfl, hwf⟩, hx⟩ := ha 0 x rfl
 have c0 := hx 0 _ rfl
 simp only [qAd, Ty.flat, Nat.mul_one, Nat.add_zero] at c0
 go_enter func70, ntmps70
 go_wp2
 go_ret
 exact ⟨_, rfl, qD0 (T := qAd) (Blk.made w [.string x] 9) (Nat.le_refl _) (fun _ _ => ⟨rfl, hwf⟩), (Nw.refl w).alloc _⟩
theorem qIn (xs : List ByteArray) (v : Value) (w : World) (h : qAd.Pt w xs v) : Calls prog 73 #[v] w fun e w' => ∃ v', e = .returned v' /\ qAq (fun W => qAd.Sl W xs v') w' (fun k => w.heap.size <= k) /\ Nw w w' := by
 rcases h with ⟨rfl, rfl⟩ | ⟨x, b, rfl, rfl, ha⟩
 · go_enter func73, ntmps73
   go_wp2
   go_ret
   exact ⟨_, rfl, fun W _ => Ty.Sl_nil _ _, Nw.refl _⟩
 obtain ⟨cs, ⟨rfl, hwf⟩, hx⟩ := ha 0 x rfl
 have c0 := hx 0 _ rfl
 simp only [qAd, Ty.flat, Nat.mul_one, Nat.add_zero] at c0
 go_enter func73, ntmps73
 go_wp2
 go_ret
 exact ⟨_, rfl, qD0 (T := qAd) (Blk.made w [.string x] 9) (Nat.le_refl _) (fun _ _ => ⟨rfl, hwf⟩), (Nw.refl w).alloc _⟩
theorem imp_urls (xs : List ByteArray) (v : Value) (w : World) (h : qAd.Pt w xs v) : Calls prog 68 #[v] w fun e w' => ∃ v', e = .returned v' /\ qAq (fun W => qAd.Sl W xs v') w' (fun k => w.heap.size <= k) /\ Nw w w' := by
 rcases h with ⟨rfl, rfl⟩ | ⟨x, b, rfl, rfl, ha⟩
 · go_enter func68, ntmps68
   go_wp2
   go_ret
   exact ⟨_, rfl, fun W _ => Ty.Sl_nil _ _, Nw.refl _⟩
 obtain ⟨cs, ⟨rfl, hwf⟩, hx⟩ := ha 0 x rfl
 have c0 := hx 0 _ rfl
 simp only [qAd, Ty.flat, Nat.mul_one, Nat.add_zero] at c0
 go_enter func68, ntmps68
 go_wp2
 go_ret
 exact ⟨_, rfl, qD0 (T := qAd) (Blk.made w [.string x] 9) (Nat.le_refl _) (fun _ _ => ⟨rfl, hwf⟩), (Nw.refl w).alloc _⟩
theorem qGn (xs : List Int) (v : Value) (w : World) (h : tyI.Pt w xs v) : Calls prog 123 #[v] w fun e w' => ∃ v', e = .returned v' /\ qAq (fun W => tyI.Sl W xs v') w' (fun k => w.heap.size <= k) /\ Nw w w' := by
 rcases h with ⟨rfl, rfl⟩ | ⟨x, b, rfl, rfl, ha⟩
 · go_enter func123, ntmps123
   go_wp2
   go_ret
   exact ⟨_, rfl, fun W _ => Ty.Sl_nil _ _, Nw.refl _⟩
 obtain ⟨cs, ⟨rfl, hwf⟩, hx⟩ := ha 0 x rfl
 have c0 := hx 0 _ rfl
 simp only [tyI, qCn, Ty.flat, Nat.mul_one, Nat.add_zero] at c0
 go_enter func123, ntmps123
 go_wp2
 go_ret
 exact ⟨_, rfl, qD0 (T := tyI) (Blk.made w [.int .i64 x] 3) (Nat.le_refl _) (fun _ _ => ⟨rfl, hwf⟩), (Nw.refl w).alloc _⟩
theorem inf142 : (prog.info? 142).map (fun i => (i.zero, i.size, i.bytes)) = some (some (.agg #[.string ⟨#[]⟩, .string ⟨#[]⟩]), qBy.sz, 32) := by kernel_rfl
theorem inf138 : (prog.info? 138).map (fun i => (i.zero, i.size, i.bytes)) = some (some (.agg #[.bool false, .string ⟨#[]⟩, .int .u64 0]), qBx.sz, 32) := by kernel_rfl
set_option maxRecDepth 100000 in
theorem qGd (xs : List Att) (v : Value) (w : World) (h : qBy.Sl w xs v) (hl : xs.length <= 2147483647) :
 Calls prog 74 #[v] w fun e w' => ∃ v', e = .returned v' /\ qAq (fun W => qBy.Sl W xs v') w' (fun k => w.heap.size <= k) /\ Nw w w' := by
 obtain ⟨A, c, rfl⟩ := Ty.Sl_form h
 go_enter func74, ntmps74
 go_wp2
 go_loopw [3, 8] (fun out i wr => ∃ k : Nat, k <= xs.length /\ i = .int .i64 k /\ qAo qBy wr w.heap.size 142 out (xs.take k) (fun _ => False) /\ Nw w wr) (fun out i _ => xs.length - (intOf i).toNat)
 case atStart => exact ⟨0, Nat.zero_le _, rfl, qAo.nil _ _ _ _ _, Nw.refl _⟩
 obtain ⟨k, hk, rfl, hrow, hnw⟩ := hrel
 by_cases hlt : k < xs.length
 · obtain ⟨b, o, rfl, ha⟩ := Ty.Sl_at h k hlt
   obtain ⟨cs, ⟨rfl, hwf⟩, hx⟩ := ha k _ (List.getElem?_eq_getElem hlt)
   have c0 := hnw.cell (hx 0 _ rfl)
   have c1 := hnw.cell (hx 1 _ rfl)
   simp only [qBy, Ty.flat, Nat.add_zero] at c0 c1
   have HT := Lib.hid (qAt hlt)
   have hlk : (xs.take k).length <= k := by simp; omega
   have HF : ∀ (W : World) (ok : Nat -> Prop), qAq (fun W => qBy.rel W xs[k] [.string xs[k].key, .string xs[k].val]) W ok := fun W ok => qAq.flat (fun _ => ⟨rfl, hwf⟩)
   clear hx ha
   go_wp2_with ((refine qAc rfl fun K hK => ?_; (with_reducible refine qCu (ops := #[]) (.tmp 12) (.tmp 18) 30 142 (.agg #[.string ⟨#[]⟩, .string ⟨#[]⟩]) 32 ?_ underlying30 inf142 ?_ ?_ u3 (xs.take k) xs[k] [.string xs[k].key, .string xs[k].val] ?_ ?_ ?_ ?_ (HF _ _) (hrow.nw ((Nw.refl _).alloc _)) (hnw.alloc _) ?_ ?_ ?_); (focus rfl); (focus rfl); (focus decide); (focus rfl); rotate_left 1; (focus rfl); (focus simp only [World.alloc, Array.size_push]); (focus omega); (focus omega); intro v1 w1 hr1 hn1 hf1 ho1; refine hK _ _ ?_))
   exact ⟨⟨k + 1, by omega, by go_num, by rw [HT.out]; exact hr1, hn1⟩, by simp [intOf]; omega⟩
 rw [List.take_of_length_le (by omega)] at hrow
 go_wp2
 go_ret
 exact ⟨_, rfl, (hrow.foot (by omega)).mono (fun k _ e => e.elim (fun e => e.elim) (fun e => e)), hnw⟩
set_option maxRecDepth 100000 in
theorem qGe (xs : List Bwd) (v : Value) (w : World) (h : qBx.Sl w xs v) (hl : xs.length <= 2147483647) :
 Calls prog 72 #[v] w fun e w' => ∃ v', e = .returned v' /\ qAq (fun W => qBx.Sl W xs v') w' (fun k => w.heap.size <= k) /\ Nw w w' := by
 obtain ⟨A, c, rfl⟩ := Ty.Sl_form h
 go_enter func72, ntmps72
 go_wp2
 go_loopw [3, 8] (fun out i wr => ∃ k : Nat, k <= xs.length /\ i = .int .i64 k /\ qAo qBx wr w.heap.size 138 out (xs.take k) (fun _ => False) /\ Nw w wr) (fun out i _ => xs.length - (intOf i).toNat)
 case atStart => exact ⟨0, Nat.zero_le _, rfl, qAo.nil _ _ _ _ _, Nw.refl _⟩
 obtain ⟨k, hk, rfl, hrow, hnw⟩ := hrel
 by_cases hlt : k < xs.length
 · obtain ⟨b, o, rfl, ha⟩ := Ty.Sl_at h k hlt
   obtain ⟨cs, ⟨rfl, hwf⟩, hx⟩ := ha k _ (List.getElem?_eq_getElem hlt)
   have c0 := hnw.cell (hx 0 _ rfl)
   have c1 := hnw.cell (hx 1 _ rfl)
   have c2 := hnw.cell (hx 2 _ rfl)
   simp only [qBx, Ty.flat, Nat.add_zero] at c0 c1 c2
   have HT := Lib.hid (qAt hlt)
   have hlk : (xs.take k).length <= k := by simp; omega
   have HF : ∀ (W : World) (ok : Nat -> Prop), qAq (fun W => qBx.rel W xs[k] [.bool xs[k].x, .string xs[k].ty, .int .u64 xs[k].n]) W ok := fun W ok => qAq.flat (fun _ => ⟨rfl, hwf⟩)
   clear hx ha
   go_wp2_with ((refine qAc rfl fun K hK => ?_; (with_reducible refine qCu (ops := #[]) (.tmp 12) (.tmp 20) 27 138 (.agg #[.bool false, .string ⟨#[]⟩, .int .u64 0]) 32 ?_ underlying27 inf138 ?_ ?_ u3 (xs.take k) xs[k] [.bool xs[k].x, .string xs[k].ty, .int .u64 xs[k].n] ?_ ?_ ?_ ?_ (HF _ _) (hrow.nw ((Nw.refl _).alloc _)) (hnw.alloc _) ?_ ?_ ?_); (focus rfl); (focus rfl); (focus decide); (focus rfl); rotate_left 1; (focus rfl); (focus simp only [World.alloc, Array.size_push]); (focus omega); (focus omega); intro v1 w1 hr1 hn1 hf1 ho1; refine hK _ _ ?_))
   exact ⟨⟨k + 1, by omega, by go_num, by rw [HT.out]; exact hr1, hn1⟩, by simp [intOf]; omega⟩
 rw [List.take_of_length_le (by omega)] at hrow
 go_wp2
 go_ret
 exact ⟨_, rfl, (hrow.foot (by omega)).mono (fun k _ e => e.elim (fun e => e.elim) (fun e => e)), hnw⟩
theorem info9c : ∃ i, prog.info? 9 = some i /\ i.zero = some (.string ⟨#[]⟩) /\ i.size = 1 /\ i.bytes = 16 := by
 have h : (prog.info? 9).map (fun i => (i.zero, i.size, i.bytes)) = some (some (.string ⟨#[]⟩), 1, 16) := by kernel_rfl
 cases hq : prog.info? 9 with
 | none => rw [hq] at h; cases h
 | some i =>
  rw [hq] at h
  simp only [Option.map_some, Option.some.injEq, Prod.mk.injEq] at h
  exact ⟨i, rfl, h.1, h.2.1, h.2.2⟩
theorem qF1 (xs : List ByteArray) (v : Value) (w : World) (h : qAd.Sl w xs v) (hl : xs.length <= 2147483647) : Calls prog 124 #[v] w fun e w' => ∃ v', e = .returned v' /\ qAq (fun W => qAd.Sl W xs v') w' (fun k => w.heap.size <= k) /\ Nw w w' := by
 obtain ⟨i0, hi, hz0, hz1, hz2⟩ := info9c
 have hgo : ∀ b o c, (∀ j u, (xs.map Value.string)[j]? = some u -> w.cell? ⟨b, o + j, none⟩ = some u) -> (∀ x ∈ xs, qAb x) -> Calls prog 124 #[.slice (some ⟨b, o, none⟩) xs.length c] w fun e w' => ∃ v', e = .returned v' /\ qAq (fun W => qAd.Sl W xs v') w' (fun k => w.heap.size <= k) /\ Nw w w' := fun b o c hc hw => by
  refine (Tryz.slices_Clone_f124 i0 (.string ⟨#[]⟩) 1 16 hi hz0 hz1 hz2 rfl (by decide) Tryz.sizeOf9 b o xs.length c (xs.map Value.string) w (by simp) (by simp only [maxLen]; omega) (by omega) hc (fun u hu => ?_)).mono ?_
  · obtain ⟨x, _, rfl⟩ := List.mem_map.1 hu; rfl
  rintro e w' ⟨v', rfl, ho, _, hn⟩
  have hfl : ∀ l : List ByteArray, (l.map (fun s => [Value.string s])).flatten = l.map Value.string := fun l => by
   induction l with
   | nil => rfl
   | cons a l ih => simp [ih]
  have hr : Row w' w.heap.size 9 1 v' (xs.map (fun s => [Value.string s])) := ⟨fun r hr => by
   obtain ⟨x, _, rfl⟩ := List.mem_map.1 hr
   exact ⟨rfl, fun u hu => by rw [List.mem_singleton.1 hu]; rfl⟩, by rw [hfl, List.length_map]; exact ho⟩
  exact ⟨v', rfl, fun W hW => Row.slFlat (enc := fun s => [Value.string s]) (hl := fun _ => rfl) (h1 := fun _ u hu => by rw [List.mem_singleton.1 hu]; rfl) (hr.move (fun k hk => hW k (hr.base k hk).1 (hr.base k hk).2)) (by omega) hw, hn⟩
 obtain ⟨hm, h⟩ := h
 rcases h with ⟨rfl, A, c, rfl, hA⟩ | ⟨hp, b, o, c, rfl, hc, ha⟩
 · cases A with
   | none => exact (Tryz.slices_Clone_nil_f124 0 c w).mono (fun e w' h => ⟨_, h.1, fun W _ => Ty.Sl_nil _ _, by rw [h.2]; exact Nw.refl _⟩)
   | some a =>
    refine (Tryz.slices_Clone_string_zero a c w).mono (fun e w' h => ?_)
    obtain ⟨v', rfl, ho, _, hn⟩ := h
    have hr : Row w' w.heap.size 9 1 v' [] := ⟨by simp, ho⟩
    exact ⟨v', rfl, fun W hW => Row.sl (T := qAd) (xs := []) (hr.move (fun k hk => hW k (hr.base k hk).1 (hr.base k hk).2)) rfl (by simp) (fun k x r hx => by simp at hx), hn⟩
 refine hgo b o c (fun j u hu => ?_) (fun x hx => ?_)
 · rw [List.getElem?_map] at hu
   cases hj : xs[j]? with
   | none => rw [hj] at hu; simp at hu
   | some x =>
    rw [hj] at hu
    obtain rfl := Option.some.inj hu
    obtain ⟨cs, ⟨rfl, _⟩, hx⟩ := ha j x hj
    have := hx 0 _ rfl
    simpa [qAd, Ty.flat] using this
 obtain ⟨j, hj⟩ := List.getElem?_of_mem hx
 obtain ⟨cs, ⟨_, hw⟩, _⟩ := ha j x hj
 exact hw
theorem info2c : ∃ i, prog.info? 2 = some i /\ i.zero = some (.int .i64 0) /\ i.size = 1 /\ i.bytes = 8 := by
 have h : (prog.info? 2).map (fun i => (i.zero, i.size, i.bytes)) = some (some (.int .i64 0), 1, 8) := by kernel_rfl
 cases hq : prog.info? 2 with
 | none => rw [hq] at h; cases h
 | some i =>
  rw [hq] at h
  simp only [Option.map_some, Option.some.injEq, Prod.mk.injEq] at h
  exact ⟨i, rfl, h.1, h.2.1, h.2.2⟩
set_option maxRecDepth 100000 in
theorem qJi (xs : List Int) (v : Value) (w : World) (h : tyI.Sl w xs v) (hl : xs.length <= 2147483647) : Calls prog 75 #[v] w fun e w' => ∃ v', e = .returned v' /\ qAq (fun W => tyI.Sl W xs v') w' (fun k => w.heap.size <= k) /\ Nw w w' := by
 obtain ⟨i0, hi, hz0, hz1, hz2⟩ := info2c
 have hgo : ∀ b o c, (∀ j u, (xs.map (Value.int .i64))[j]? = some u -> w.cell? ⟨b, o + j, none⟩ = some u) -> (∀ x ∈ xs, qAg .i64 x) -> Calls prog 75 #[.slice (some ⟨b, o, none⟩) xs.length c] w fun e w' => ∃ v', e = .returned v' /\ qAq (fun W => tyI.Sl W xs v') w' (fun k => w.heap.size <= k) /\ Nw w w' := fun b o c hc hw => by
  refine (Tryz.slices_Clone_f75 i0 (.int .i64 0) 1 8 hi hz0 hz1 hz2 rfl (by decide) Tryz.sizeOf2 b o xs.length c (xs.map (Value.int .i64)) w (by simp) (by simp only [maxLen]; omega) (by omega) hc (fun u hu => ?_)).mono ?_
  · obtain ⟨x, _, rfl⟩ := List.mem_map.1 hu; rfl
  rintro e w' ⟨v', rfl, ho, _, hn⟩
  have hfl : ∀ l : List Int, (l.map (fun s => [(Value.int .i64) s])).flatten = l.map (Value.int .i64) := fun l => by
   induction l with
   | nil => rfl
   | cons a l ih => simp [ih]
  have hr : Row w' w.heap.size 2 1 v' (xs.map (fun s => [(Value.int .i64) s])) := ⟨fun r hr => by
   obtain ⟨x, _, rfl⟩ := List.mem_map.1 hr
   exact ⟨rfl, fun u hu => by rw [List.mem_singleton.1 hu]; rfl⟩, by rw [hfl, List.length_map]; exact ho⟩
  exact ⟨v', rfl, fun W hW => Row.slFlat (enc := fun s => [(Value.int .i64) s]) (hl := fun _ => rfl) (h1 := fun _ u hu => by rw [List.mem_singleton.1 hu]; rfl) (hr.move (fun k hk => hW k (hr.base k hk).1 (hr.base k hk).2)) (by omega) hw, hn⟩
 obtain ⟨hm, h⟩ := h
 rcases h with ⟨rfl, A, c, rfl, hA⟩ | ⟨hp, b, o, c, rfl, hc, ha⟩
 · cases A with
   | none => exact (Tryz.slices_Clone_nil_f75 0 c w).mono (fun e w' h => ⟨_, h.1, fun W _ => Ty.Sl_nil _ _, by rw [h.2]; exact Nw.refl _⟩)
   | some a =>
    have hne : ∀ w : World, (binOp .eql 75 (.slice (some a) 0 c) (.slice none 0 0)).run prog w = .ok (.bool false) w := fun w => by kernel_rfl
    go_enter func75, ntmps75
    go_wp2
    go_ret
    exact ⟨_, rfl, fun W _ => ⟨by simp, .inl ⟨rfl, some ⟨w.heap.size, 0, none⟩, 0, rfl, (fun e => by cases e)⟩⟩, (Nw.refl _).alloc _⟩
 refine hgo b o c (fun j u hu => ?_) (fun x hx => ?_)
 · rw [List.getElem?_map] at hu
   cases hj : xs[j]? with
   | none => rw [hj] at hu; simp at hu
   | some x =>
    rw [hj] at hu
    obtain rfl := Option.some.inj hu
    obtain ⟨cs, ⟨rfl, _⟩, hx⟩ := ha j x hj
    have := hx 0 _ rfl
    simpa [tyI, qCn, Ty.flat] using this
 obtain ⟨j, hj⟩ := List.getElem?_of_mem hx
 obtain ⟨cs, ⟨_, hw⟩, _⟩ := ha j x hj
 exact hw
end Go.Proofs.YtcepdjlknalmnaaGreatDoor
/- What the thin package reads out of a connection. -/
namespace Go.Proofs.YtcepdjlknalmnaaGreatDoor
open Tryz
open Go.RowKit
attribute [local go_sem ↓] Go.wp_at_zero Go.wp_at_succ
set_option maxRecDepth 100000 in
set_option maxHeartbeats 1000000 in
theorem qFu (xs : List Con) (v : Value) (w : World) (h : qGw.Pt w xs v) : Calls prog 71 #[v] w fun e w' => ∃ v', e = .returned v' /\ qAq (fun W => qC0.Sl W xs v') w' (fun k => w.heap.size <= k) /\ Nw w w' := by
 rcases h with ⟨rfl, rfl⟩ | ⟨x, b, rfl, rfl, ha⟩
 · go_enter func71, ntmps71
   go_wp2
   go_ret
   exact ⟨_, rfl, fun W _ => Ty.Sl_nil _ _, Nw.refl _⟩
 obtain ⟨cs, ⟨v1, rfl, hw0, hw1, h1⟩, hx⟩ := ha 0 x rfl
 have c0 := hx 0 _ rfl
 have c1 := hx 1 _ rfl
 have c2 := hx 2 _ rfl
 simp only [qGw, Nat.zero_mul, Nat.add_zero, Nat.zero_add] at c0 c1 c2
 have nb := World.block_lt_of_cell? _ _ c0
 clear hx ha
 rcases h1 with ⟨h1, rfl⟩ | ⟨y, b2, h1, rfl, ha2⟩
 · go_enter func71, ntmps71
   go_upto_region 3 with fail
   go_region_held3 (fun w' => w'.cell? ⟨b, 0, none⟩ = some (.string x.net) /\ w'.cell? ⟨b, 1, none⟩ = some (.string x.addr) /\ w'.cell? ⟨b, 2, none⟩ = some (.pointer none)) (go_keep) (first | fail)
   go_wp2
   go_ret
   refine ⟨_, rfl, qD0 (T := qC0) (t := 135) (cs := [.string x.net, .string x.addr, .slice none 0 0]) (Blk.made' (by simp) _ 135).drew (Nat.le_succ _) (fun W _ => ⟨_, rfl, hw0, hw1, by rw [h1]; exact Ty.Sl_nil _ _⟩), (((Nw.refl w).alloc _).alloc _).drew⟩
 obtain ⟨cs2, ⟨p1, p2, rfl, hw2, t1, t2⟩, hx2⟩ := ha2 0 y rfl
 have d0 := hx2 0 _ rfl
 have d1 := hx2 1 _ rfl
 have d2 := hx2 2 _ rfl
 simp only [qHq, Nat.zero_mul, Nat.add_zero, Nat.zero_add] at d0 d1 d2
 clear hx2 ha2
 go_enter func71, ntmps71
 go_upto_region 3 with fail
 go_region_held3 (fun w' => w'.cell? ⟨b, 0, none⟩ = some (.string x.net) /\ w'.cell? ⟨b, 1, none⟩ = some (.string x.addr) /\ w'.cell? ⟨b, 2, none⟩ = some (.pointer (some ⟨b2, 0, none⟩))) (go_keep) (first | fail)
 go_upto_region 6 with fail
 obtain ⟨wB, hwB⟩ : ∃ wB, wB = (w.alloc (.cells #[.string x.net, .string x.addr, .slice none 0 0] 135)).drew := ⟨_, rfl⟩
 obtain ⟨g, hg⟩ : ∃ g, g = w.heap.size := ⟨_, rfl⟩
 have hqB : Nw w wB := by rw [hwB]; exact ((Nw.refl w).alloc _).drew
 have hG : Blk wB g [.string x.net, .string x.addr, .slice none 0 0] 135 := by rw [hwB, hg]; exact (Blk.made w _ 135).drew
 rw [<- hwB, <- hg]
 have HG := Lib.hid hg
 have n2 : ¬ g = b2 := fun e => by have := World.block_lt_of_cell? _ _ d0; have e' : b2 < w.heap.size := this; omega
 have n3 : ¬ b2 = g := fun e => n2 e.symm
 have e0 := hqB.cell d0
 have e1 := hqB.cell d1
 have e2 := hqB.cell d2
 have nB := hG.lt
 clear hwB hg c0 c1 c2 d0 d1 d2
 go_region_held3 (fun w' => w'.cell? ⟨b2, 0, none⟩ = some (.string y.addr) /\ w'.cell? ⟨b2, 1, none⟩ = some p1 /\ w'.cell? ⟨b2, 2, none⟩ = some p2) (first | exact ⟨k0, k1, k2⟩ | exact ⟨l0, l1, l2⟩ | go_keep)
  (first
   | (go_at_call 123; (with_reducible refine (qGn y.ttl p1 _ ?_).mono ?_); (focus exact Ty.Pt_loc (Nw.block (w := w) (Nw.drew hqB)) t1); rintro e w3 ⟨u1, rfl, hs1, hn1⟩; have hq1 : Nw wB w3 := Nw.trans ((Nw.refl wB).drew) hn1; have k0 := hq1.cell e0; have k1 := hq1.cell e1; have k2 := hq1.cell e2; obtain ⟨A1, n1, rfl⟩ := Ty.Sl_form hs1.now)
   | (go_at_call 123; (with_reducible refine (qGn y.rng p2 _ ?_).mono ?_); (focus exact Ty.Pt_loc (Nw.block (hqB.trans hq1)) t2); rintro e w4 ⟨u2, rfl, hs2, hn2⟩; have hq2 : Nw wB w4 := hq1.trans hn2; have l0 := hq2.cell e0; have l1 := hq2.cell e1; have l2 := hq2.cell e2; obtain ⟨A2, n2, rfl⟩ := Ty.Sl_form hs2.now; have hG4 := (hG.nw hq2).alloc (.cells #[.string y.addr, .slice A1 y.ttl.length n1, .slice A2 y.rng.length n2] 145); have g2 := hG4.cell 2 rfl; have f2 := hG4.fz 2))
 obtain ⟨w5, hw5⟩ : ∃ w5, w5 = (w4.alloc (.cells #[.string y.addr, .slice A1 y.ttl.length n1, .slice A2 y.rng.length n2] 145)).setCell ⟨g, 2, none⟩ (.slice (some ⟨w4.heap.size, 0, none⟩) 1 1) := ⟨_, rfl⟩
 have hgw : w.heap.size <= g := Nat.le_of_eq HG.out.symm
 have hq5 : Nw w w5 := by rw [hw5]; exact (((hqB.trans hq2).alloc _).setCell hgw _)
 have hG5 : Blk w5 g [.string x.net, .string x.addr, .slice (some ⟨w4.heap.size, 0, none⟩) 1 1] 135 := by rw [hw5]; exact hG4.set 2 _
 have hg4 : g < w4.heap.size := (hG.nw hq2).lt
 have hA5 : Blk w5 w4.heap.size [.string y.addr, .slice A1 y.ttl.length n1, .slice A2 y.rng.length n2] 145 := by rw [hw5]; exact Blk.other (Blk.made w4 _ 145) (fun e => by have e' : w4.heap.size = g := e; omega) _
 have hF35 : Fr (fun k => k = g) w3 w5 := by rw [hw5]; exact Fr.setCell (S := fun k => k = g) (p := ⟨g, 2, none⟩) ((hn2.fr _).alloc _) (.inl rfl) _
 have hF45 : Fr (fun k => k = g) w4 w5 := by rw [hw5]; exact Fr.setCell (S := fun k => k = g) (p := ⟨g, 2, none⟩) ((Fr.refl _ _).alloc _) (.inl rfl) _
 have hs3 : wB.heap.size <= w3.heap.size := hq1.size
 have s1 : qAq (fun W => tyI.Sl W y.ttl (.slice A1 y.ttl.length n1)) w5 (fun k => w.heap.size <= k) := (hs1.fr hF35 (fun k hk hok e => by have hok' : wB.heap.size <= k := hok; omega)).mono (fun k _ e => by have : wB.heap.size <= k := e.1; omega)
 have s2 : qAq (fun W => tyI.Sl W y.rng (.slice A2 y.rng.length n2)) w5 (fun k => w.heap.size <= k) := (hs2.fr hF45 (fun k hk hok e => by have hok' : w3.heap.size <= k := hok; omega)).mono (fun k _ e => by have : w3.heap.size <= k := e.1; omega)
 rw [<- hw5]
 have b0 := hG5.cell 0 rfl
 have b1 := hG5.cell 1 rfl
 have b2' := hG5.cell 2 rfl
 clear hw5
 go_wp2
 go_ret
 have hs5 : w.heap.size <= w5.heap.size := hq5.size
 have hs4 : w.heap.size <= w4.heap.size := (hqB.trans hq2).size
 have F1 := (s1.nw ((Nw.refl w5).alloc (.cells #[.string x.net, .string x.addr, .slice (some ⟨w4.heap.size, 0, none⟩) 1 1] 135))).mono (ok' := fun k => w.heap.size <= k) (fun k _ e => e.1)
 have F2 := (s2.nw ((Nw.refl w5).alloc (.cells #[.string x.net, .string x.addr, .slice (some ⟨w4.heap.size, 0, none⟩) 1 1] 135))).mono (ok' := fun k => w.heap.size <= k) (fun k _ e => e.1)
 have F3 := qD0 (T := qE2) (x := y) (hA5.alloc (.cells #[.string x.net, .string x.addr, .slice (some ⟨w4.heap.size, 0, none⟩) 1 1] 135)) hs4 (fun W hW => ⟨_, _, rfl, hw2, F1 W hW, F2 W hW⟩)
 exact ⟨_, rfl, qD0 (T := qC0) (x := x) (Blk.made w5 [.string x.net, .string x.addr, .slice (some ⟨w4.heap.size, 0, none⟩) 1 1] 135) hs5 (fun W hW => ⟨_, rfl, hw0, hw1, by rw [h1]; exact F3 W hW⟩), hq5.alloc _⟩
end Go.Proofs.YtcepdjlknalmnaaGreatDoor

/- Lists that a call makes, whose elements lead to lists of their own. -/
import Derived.Test.YtcepdjlknalmnaaGreatDoorTxtD
import Derived.Deep.Cut
import Derived.Deep.CutRange
namespace Go.Proofs.YtcepdjlknalmnaaGreatDoor
open Go.RowKit
set_option linter.unusedSimpArgs false
set_option linter.unusedVariables false
def RowT {α : Type} (T : Ty α) (w : World) (B e : Nat) (v : Value) (xs : List α) (ok : Nat → Prop) : Prop :=
 ∃ rows, Row w B e T.sz v rows ∧ rows.length = xs.length ∧ ∀ (i : Nat) x r, xs[i]? = some x → rows[i]? = some r → Foot (fun W => T.rel W x r) w (fun k => ok k ∧ ¬ some k = v.ownBlock)
namespace RowT
variable {α : Type} {T : Ty α} {w w1 : World} {B e : Nat} {v : Value} {xs : List α} {ok ok' : Nat → Prop}
theorem nil (T : Ty α) (w : World) (B e : Nat) (ok : Nat → Prop) : RowT T w B e (.slice none 0 0) [] ok := ⟨[], Row.nil _ _ _ _, rfl, fun i x r hx => by simp at hx⟩
theorem nw (h : RowT T w B e v xs ok) (hn : Nw w w1) : RowT T w1 B e v xs ok := by
 obtain ⟨rows, hr, hl, hf⟩ := h
 exact ⟨rows, hr.nw hn, hl, fun i x r hx hr' => ((hf i x r hx hr').nw hn).mono (fun k _ hk => hk.1)⟩
theorem mono (h : RowT T w B e v xs ok) (hm : ∀ k, k < w.heap.size → ok k → ok' k) : RowT T w B e v xs ok' := by
 obtain ⟨rows, hr, hl, hf⟩ := h
 exact ⟨rows, hr, hl, fun i x r hx hr' => (hf i x r hx hr').mono (fun k hk hk' => ⟨hm k hk hk'.1, hk'.2⟩)⟩
theorem lower {B' : Nat} (h : RowT T w B e v xs ok) (hb : B' ≤ B) : RowT T w B' e v xs ok := by
 obtain ⟨rows, hr, hl, hf⟩ := h
 exact ⟨rows, hr.lower hb, hl, hf⟩
theorem base (h : RowT T w B e v xs ok) : ∀ k, v.ownBlock = some k → B ≤ k ∧ k < w.heap.size := by
 obtain ⟨rows, hr, _⟩ := h
 exact hr.base
theorem form (h : RowT T w B e v xs ok) : ∃ A c, v = .slice A xs.length c ∧ xs.length ≤ c := by
 obtain ⟨rows, hr, hl, _⟩ := h
 obtain ⟨A, c, h1, h2⟩ := hr.form
 exact ⟨A, c, by rw [h1, hl], by omega⟩
theorem form' (h : RowT T w B e v xs ok) : ∃ A n c, v = .slice A n c := by
 obtain ⟨A, c, h, _⟩ := form h
 exact ⟨A, _, c, h⟩
theorem sl (h : RowT T w B e v xs ok) (hm : xs.length ≤ 140737488355328) : T.Sl w xs v := by
 obtain ⟨rows, hr, hl, hf⟩ := h
 exact hr.sl hl.symm (by omega) (fun k x r hx hr' => (hf k x r hx hr').now)
theorem foot (h : RowT T w B e v xs ok) (hm : xs.length ≤ 140737488355328) : Foot (fun W => T.Sl W xs v) w (fun k => ok k ∨ B ≤ k) := fun W hW => by
 obtain ⟨rows, hr, hl, hf⟩ := h
 refine Row.sl (hr.move (w1 := W) (fun k hk => hW k (.inr (hr.base k hk).1) (hr.base k hk).2)) hl.symm (by omega) (fun k x r hx hr' => hf k x r hx hr' W (fun j hj hlt => hW j (.inl hj.1) hlt))
theorem snoc {y : α} {r : List Value} {v1 : Value} {rows : List (List Value)} {W : World} (hr : Row w1 B e T.sz v1 (rows ++ [r])) (hl : rows.length = xs.length)
 (hf : ∀ (i : Nat) x r, xs[i]? = some x → rows[i]? = some r → Foot (fun W => T.rel W x r) W (fun k => ok k ∧ ¬ some k = v.ownBlock)) (HF : Foot (fun W => T.rel W y r) W (fun k => ok k ∧ ¬ some k = v.ownBlock))
 (hfr : Fr (fun k => some k = v.ownBlock) W w1) (ho : v1.ownBlock = v.ownBlock ∨ ∃ b, v1.ownBlock = some b ∧ W.heap.size ≤ b) : RowT T w1 B e v1 (xs ++ [y]) ok := by
 have hst : ∀ (x : α) (r : List Value), Foot (fun W => T.rel W x r) W (fun k => ok k ∧ ¬ some k = v.ownBlock) → Foot (fun W => T.rel W x r) w1 (fun k => ok k ∧ ¬ some k = v1.ownBlock) := fun x r hh =>
  (hh.fr hfr (fun k _ hk => hk.2)).mono (fun k _ hk => ⟨hk.1.1, by
   rcases ho with ho | ⟨b, ho, hb⟩
   · rw [ho]; exact hk.1.2
   · rw [ho]; intro e; injection e with e; omega⟩)
 refine ⟨rows ++ [r], hr, by simp [hl], fun i x r' hx hr' => ?_⟩
 rcases Nat.lt_or_ge i xs.length with hi | hi
 · rw [List.getElem?_append_left hi] at hx
   rw [List.getElem?_append_left (by omega)] at hr'
   exact hst x r' (hf i x r' hx hr')
 · have : i = xs.length := by have := (List.getElem?_eq_some_iff.1 hx).1; simp at this; omega
   subst this
   rw [List.getElem?_append_right (by omega)] at hx
   rw [List.getElem?_append_right (by omega)] at hr'
   simp only [Nat.sub_self, List.getElem?_cons_zero, Option.some.injEq] at hx
   rw [← hl] at hr'
   simp only [Nat.sub_self, List.getElem?_cons_zero, Option.some.injEq] at hr'
   subst hx; subst hr'
   exact hst y r HF
end RowT
theorem rowT_appendB {α : Type} {T : Ty α} {ok : Nat → Prop} {ops : Array Oper} {o : Oper} {a : Act} {Q : Exit → Act → World → Prop} {K : Act → World → Prop} {B : Nat} {W : World} (s x : Operand) (t e : Nat) (z : Value) (bytes : Nat)
 (ho : o.op = .call { callee := .builtin .append, args := #[s, x], argTypes := #[t, t] }) (ht : Tryz.prog.underlying t = some (.slice e)) (hinfo : (Tryz.prog.info? e).map (fun i => (i.zero, i.size, i.bytes)) = some (some z, T.sz, bytes)) (hz : z.cells.size = T.sz) (hsz : 0 < T.sz)
 (v : Value) (xs : List α) (y : α) (r : List Value) (hs : a.eval s = v) (g : Nat) (hx : a.eval x = .slice (some ⟨g, 0, none⟩) 1 1) (hg : g = W.heap.size)
 (HF : Foot (fun W => T.rel W y r) W (fun k => ok k ∧ ¬ some k = v.ownBlock)) (HO : RowT T W B e v xs ok) (hB : B ≤ W.heap.size) (hl : (xs.length + 1) * bytes ≤ 140737488355328) (hl2 : xs.length + 1 ≤ 140737488355328)
 (h : ∀ v1 w1, RowT T w1 B e v1 (xs ++ [y]) ok → Fr (fun k => some k = v.ownBlock) W w1 → (v1.ownBlock = v.ownBlock ∨ ∃ b, v1.ownBlock = some b ∧ W.heap.size ≤ b) → K (a.put o.dst v1) w1) :
 o.wp Tryz.prog a (W.alloc (.cells r.toArray e)) K Q := by
 subst hg
 obtain ⟨rows, hr, hrl, hf⟩ := HO
 refine row_append B s x t e T.sz z bytes ho ht hinfo hz hsz v rows r hs hx (T.len HF.now) (T.one HF.now) hr hB (by rw [hrl]; exact hl) (by rw [hrl]; exact hl2) ?_
 intro v1 w1 h3 h4 h5
 exact h v1 w1 (RowT.snoc h3 hrl hf HF h4 h5) h4 h5
theorem rowT_append {α : Type} {T : Ty α} {ok : Nat → Prop} {ops : Array Oper} {o : Oper} {a : Act} {Q : Exit → Act → World → Prop} {K : Act → World → Prop} {w0 W : World} (s x : Operand) (t e : Nat) (z : Value) (bytes : Nat)
 (ho : o.op = .call { callee := .builtin .append, args := #[s, x], argTypes := #[t, t] }) (ht : Tryz.prog.underlying t = some (.slice e)) (hinfo : (Tryz.prog.info? e).map (fun i => (i.zero, i.size, i.bytes)) = some (some z, T.sz, bytes)) (hz : z.cells.size = T.sz) (hsz : 0 < T.sz)
 (v : Value) (xs : List α) (y : α) (r : List Value) (hs : a.eval s = v) (g : Nat) (hx : a.eval x = .slice (some ⟨g, 0, none⟩) 1 1) (hg : g = W.heap.size)
 (HF : Foot (fun W => T.rel W y r) W (fun k => ok k ∧ ¬ some k = v.ownBlock)) (HO : RowT T W w0.heap.size e v xs ok) (hn : Nw w0 W) (hl : (xs.length + 1) * bytes ≤ 140737488355328) (hl2 : xs.length + 1 ≤ 140737488355328)
 (h : ∀ v1 w1, RowT T w1 w0.heap.size e v1 (xs ++ [y]) ok → Nw w0 w1 → Fr (fun k => some k = v.ownBlock) W w1 → (v1.ownBlock = v.ownBlock ∨ ∃ b, v1.ownBlock = some b ∧ W.heap.size ≤ b) → K (a.put o.dst v1) w1) :
 o.wp Tryz.prog a (W.alloc (.cells r.toArray e)) K Q :=
 rowT_appendB (ops := ops) s x t e z bytes ho ht hinfo hz hsz v xs y r hs g hx hg HF HO hn.size hl hl2 (fun v1 w1 h3 h4 h5 => h v1 w1 h3 (hn.frIn h4 (fun i hi => (RowT.base HO i hi.symm).1)) h4 h5)
theorem Foot.flat {P : World → Prop} {w : World} {ok : Nat → Prop} (h : ∀ W, P W) : Foot P w ok := fun W _ => h W
theorem inf146 : (Tryz.prog.info? 146).map (fun i => (i.zero, i.size, i.bytes)) = some (some (.agg #[.bool false, .string ⟨#[]⟩, .int .u64 0]), tyBwd.sz, 32) := by kernel_rfl
theorem inf147 : (Tryz.prog.info? 147).map (fun i => (i.zero, i.size, i.bytes)) = some (some (.agg #[.string ⟨#[]⟩, .string ⟨#[]⟩]), tyAtt.sz, 32) := by kernel_rfl
theorem inf126 : (Tryz.prog.info? 126).map (fun i => (i.zero, i.size, i.bytes)) = some (some (.agg #[.string ⟨#[]⟩, .slice none 0 0, .slice none 0 0]), tyAdr.sz, 64) := by kernel_rfl
theorem inf124 : (Tryz.prog.info? 124).map (fun i => (i.zero, i.size, i.bytes)) = some (some (.agg #[.string ⟨#[]⟩, .string ⟨#[]⟩, .slice none 0 0]), tyCon.sz, 56) := by kernel_rfl
theorem inf78 : (Tryz.prog.info? 78).map (fun i => (i.zero, i.size, i.bytes)) = some (some (.agg #[.int .i64 0, .int .i64 0, .slice none 0 0]), tyRep.sz, 40) := by kernel_rfl
theorem inf74 : (Tryz.prog.info? 74).map (fun i => (i.zero, i.size, i.bytes)) = some (some (.agg #[.int .u64 0, .int .u64 0, .slice none 0 0]), tyTim.sz, 40) := by kernel_rfl
theorem inf81 : (Tryz.prog.info? 81).map (fun i => (i.zero, i.size, i.bytes)) = some (some (.agg #[.int .u64 0, .int .i64 0]), tyZon.sz, 16) := by kernel_rfl
theorem inf86 : (Tryz.prog.info? 86).map (fun i => (i.zero, i.size, i.bytes)) = some (some (.agg #[.string ⟨#[]⟩, .int .i64 0, .slice none 0 0, .slice none 0 0, .slice none 0 0, .slice none 0 0, .slice none 0 0, .slice none 0 0, .slice none 0 0, .slice none 0 0]), tyMed.sz, 216) := by kernel_rfl
set_option maxRecDepth 100000 in
theorem law_attributes (xs : List Att) (v : Value) (w : World) (h : tyAtt.Sl w xs v) (hl : xs.length ≤ 2147483647) :
 Calls Tryz.prog 30 #[v] w fun e w' => ∃ v', e = .returned v' ∧ RowT tyAtt w' w.heap.size 147 v' xs (fun k => k < w.heap.size) ∧ Nw w w' := by
 obtain ⟨A, c, rfl⟩ := Ty.Sl_form h
 go_enter Tryz.func30, Tryz.ntmps30
 go_wp2
 go_loopw [3, 8] (fun out i wr => ∃ k : Nat, k ≤ xs.length ∧ i = .int .i64 k ∧ RowT tyAtt wr w.heap.size 147 out (xs.take k) (fun k => k < w.heap.size) ∧ Nw w wr) (fun out i _ => xs.length - (intOf i).toNat)
 case atStart => exact ⟨0, Nat.zero_le _, rfl, RowT.nil _ _ _ _ _, Nw.refl _⟩
 case round =>
  obtain ⟨k, hk, rfl, hrow, hnw⟩ := hrel
  by_cases hlt : k < xs.length
  · obtain ⟨b, o, rfl, ha⟩ := Ty.Sl_at h k hlt
    obtain ⟨cs, ⟨rfl, hwf⟩, hx⟩ := ha k _ (List.getElem?_eq_getElem hlt)
    have c0 := hnw.cell (hx 0 _ rfl)
    have c1 := hnw.cell (hx 1 _ rfl)
    simp only [tyAtt, Ty.flat, Nat.add_zero] at c0 c1
    have HT := Lib.hid (take_snoc hlt)
    have hlk : (xs.take k).length ≤ k := by simp; omega
    have HF : ∀ (W : World) (ok : Nat → Prop), Foot (fun W => tyAtt.rel W xs[k] [.string xs[k].key, .string xs[k].val]) W ok := fun W ok => Foot.flat (fun _ => ⟨rfl, hwf⟩)
    clear hx ha
    go_wp2_with ((refine at_list rfl fun K hK => ?_; (with_reducible refine rowT_append (ops := #[]) (.tmp 12) (.tmp 18) 40 147 (.agg #[.string ⟨#[]⟩, .string ⟨#[]⟩]) 32 ?_ Tryz.underlying40 inf147 ?_ ?_ u3 (xs.take k) xs[k] [.string xs[k].key, .string xs[k].val] ?_ ?_ ?_ ?_ (HF _ _) (hrow.nw ((Nw.refl _).alloc _)) (hnw.alloc _) ?_ ?_ ?_); (focus rfl); (focus rfl); (focus decide); (focus rfl); rotate_left 1; (focus rfl); (focus simp only [World.alloc, Array.size_push]); (focus omega); (focus omega); intro v1 w1 hr1 hn1 hf1 ho1; refine hK _ _ ?_))
    exact ⟨⟨k + 1, by omega, by go_num, by rw [HT.out]; exact hr1, hn1⟩, by simp [intOf]; omega⟩
  · rw [List.take_of_length_le (by omega)] at hrow
    go_wp2
    go_ret
    exact ⟨_, rfl, hrow, hnw⟩
set_option maxRecDepth 100000 in
theorem law_bandwidths (xs : List Bwd) (v : Value) (w : World) (h : tyBwd.Sl w xs v) (hl : xs.length ≤ 2147483647) :
 Calls Tryz.prog 29 #[v] w fun e w' => ∃ v', e = .returned v' ∧ RowT tyBwd w' w.heap.size 146 v' xs (fun k => k < w.heap.size) ∧ Nw w w' := by
 obtain ⟨A, c, rfl⟩ := Ty.Sl_form h
 go_enter Tryz.func29, Tryz.ntmps29
 go_wp2
 go_loopw [3, 8] (fun out i wr => ∃ k : Nat, k ≤ xs.length ∧ i = .int .i64 k ∧ RowT tyBwd wr w.heap.size 146 out (xs.take k) (fun k => k < w.heap.size) ∧ Nw w wr) (fun out i _ => xs.length - (intOf i).toNat)
 case atStart => exact ⟨0, Nat.zero_le _, rfl, RowT.nil _ _ _ _ _, Nw.refl _⟩
 case round =>
  obtain ⟨k, hk, rfl, hrow, hnw⟩ := hrel
  by_cases hlt : k < xs.length
  · obtain ⟨b, o, rfl, ha⟩ := Ty.Sl_at h k hlt
    obtain ⟨cs, ⟨rfl, hwf⟩, hx⟩ := ha k _ (List.getElem?_eq_getElem hlt)
    have c0 := hnw.cell (hx 0 _ rfl)
    have c1 := hnw.cell (hx 1 _ rfl)
    have c2 := hnw.cell (hx 2 _ rfl)
    simp only [tyBwd, Ty.flat, Nat.add_zero] at c0 c1 c2
    have HT := Lib.hid (take_snoc hlt)
    have hlk : (xs.take k).length ≤ k := by simp; omega
    have HF : ∀ (W : World) (ok : Nat → Prop), Foot (fun W => tyBwd.rel W xs[k] [.bool xs[k].x, .string xs[k].ty, .int .u64 xs[k].n]) W ok := fun W ok => Foot.flat (fun _ => ⟨rfl, hwf⟩)
    clear hx ha
    go_wp2_with ((refine at_list rfl fun K hK => ?_; (with_reducible refine rowT_append (ops := #[]) (.tmp 12) (.tmp 20) 37 146 (.agg #[.bool false, .string ⟨#[]⟩, .int .u64 0]) 32 ?_ Tryz.underlying37 inf146 ?_ ?_ u3 (xs.take k) xs[k] [.bool xs[k].x, .string xs[k].ty, .int .u64 xs[k].n] ?_ ?_ ?_ ?_ (HF _ _) (hrow.nw ((Nw.refl _).alloc _)) (hnw.alloc _) ?_ ?_ ?_); (focus rfl); (focus rfl); (focus decide); (focus rfl); rotate_left 1; (focus rfl); (focus simp only [World.alloc, Array.size_push]); (focus omega); (focus omega); intro v1 w1 hr1 hn1 hf1 ho1; refine hK _ _ ?_))
    exact ⟨⟨k + 1, by omega, by go_num, by rw [HT.out]; exact hr1, hn1⟩, by simp [intOf]; omega⟩
  · rw [List.take_of_length_le (by omega)] at hrow
    go_wp2
    go_ret
    exact ⟨_, rfl, hrow, hnw⟩
theorem Fr.frozen {S : Nat → Prop} {w w' : World} (h : Fr S w w') {p : Addr} {u : Value} {b : Bool} (hs : ¬ S p.block) (hc : w.cell? p = some u) (hf : w.frozen? p = b) : w'.frozen? p = b := by
 rw [← hf]
 unfold World.frozen?
 rw [h.block p.block (World.block_lt_of_cell? w p hc) hs]
theorem RowT.fr {α : Type} {T : Ty α} {w w1 : World} {B e : Nat} {v : Value} {xs : List α} {ok S : Nat → Prop} (h : RowT T w B e v xs ok) (hf : Fr S w w1) (h1 : ∀ k, v.ownBlock = some k → ¬ S k) (h2 : ∀ k, k < w.heap.size → ok k → ¬ S k) : RowT T w1 B e v xs ok := by
 obtain ⟨rows, hr, hl, hg⟩ := h
 exact ⟨rows, hr.fr hf h1, hl, fun i x r hx hr' => ((hg i x r hx hr').fr hf (fun k hk hk' => h2 k hk hk'.1)).mono (fun k _ hk => hk.1)⟩
end Go.Proofs.YtcepdjlknalmnaaGreatDoor

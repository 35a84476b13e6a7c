/- Laws of this claim. -/
import Derived.Test.YtcepdjlknalmnaaGreatDoorTxtD
import Derived.Deep.Cut
import Derived.Deep.CutRange
set_option linter.unusedSimpArgs false
set_option linter.unusedVariables false
namespace Go.Proofs.YtcepdjlknalmnaaGreatDoor
open Tryz
open Lib (hid)
open Go.RowKit
def qAo {α : Type} (T : Ty α) (w : World) (B e : Nat) (v : Value) (xs : List α) (ok : Nat -> Prop) : Prop :=
 ∃ rows, Row w B e T.sz v rows /\ rows.length = xs.length /\ ∀ (i : Nat) x r, xs[i]? = some x -> rows[i]? = some r -> qAq (fun W => T.rel W x r) w (fun k => ok k /\ ¬ some k = v.ownBlock)
namespace qAo
variable {α : Type} {T : Ty α} {w w1 : World} {B e : Nat} {v : Value} {xs : List α} {ok ok' : Nat -> Prop}
theorem nil (T : Ty α) (w : World) (B e : Nat) (ok : Nat -> Prop) : qAo T w B e (.slice none 0 0) [] ok := ⟨[], Row.nil _ _ _ _, rfl, fun i x r hx => by simp at hx⟩
theorem nw (h : qAo T w B e v xs ok) (hn : Nw w w1) : qAo T w1 B e v xs ok := by
 obtain ⟨rows, hr, hl, hf⟩ := h
 exact ⟨rows, hr.nw hn, hl, fun i x r hx hr' => ((hf i x r hx hr').nw hn).mono (fun k _ hk => hk.1)⟩
theorem mono (h : qAo T w B e v xs ok) (hm : ∀ k, k < w.heap.size -> ok k -> ok' k) : qAo T w B e v xs ok' := by
 obtain ⟨rows, hr, hl, hf⟩ := h
 exact ⟨rows, hr, hl, fun i x r hx hr' => (hf i x r hx hr').mono (fun k hk hk' => ⟨hm k hk hk'.1, hk'.2⟩)⟩
theorem lower {B' : Nat} (h : qAo T w B e v xs ok) (hb : B' <= B) : qAo T w B' e v xs ok := by
 obtain ⟨rows, hr, hl, hf⟩ := h
 exact ⟨rows, hr.lower hb, hl, hf⟩
theorem base (h : qAo T w B e v xs ok) : ∀ k, v.ownBlock = some k -> B <= k /\ k < w.heap.size := by
 obtain ⟨rows, hr, _⟩ := h
 exact hr.base
theorem form (h : qAo T w B e v xs ok) : ∃ A c, v = .slice A xs.length c /\ xs.length <= c := by
 obtain ⟨rows, hr, hl, _⟩ := h
 obtain ⟨A, c, h1, h2⟩ := hr.form
 exact ⟨A, c, by rw [h1, hl], by omega⟩
theorem form' (h : qAo T w B e v xs ok) : ∃ A n c, v = .slice A n c := by
 obtain ⟨A, c, h, _⟩ := form h
 exact ⟨A, _, c, h⟩
theorem sl (h : qAo T w B e v xs ok) (hm : xs.length <= 140737488355328) : T.Sl w xs v := by
 obtain ⟨rows, hr, hl, hf⟩ := h
 exact hr.sl hl.symm (by omega) (fun k x r hx hr' => (hf k x r hx hr').now)
theorem foot (h : qAo T w B e v xs ok) (hm : xs.length <= 140737488355328) : qAq (fun W => T.Sl W xs v) w (fun k => ok k ∨ B <= k) := fun W hW => by
 obtain ⟨rows, hr, hl, hf⟩ := h
 refine Row.sl (hr.move (w1 := W) (fun k hk => hW k (.inr (hr.base k hk).1) (hr.base k hk).2)) hl.symm (by omega) (fun k x r hx hr' => hf k x r hx hr' W (fun j hj hlt => hW j (.inl hj.1) hlt))
theorem snoc {y : α} {r : List Value} {v1 : Value} {rows : List (List Value)} {W : World} (hr : Row w1 B e T.sz v1 (rows ++ [r])) (hl : rows.length = xs.length)
 (hf : ∀ (i : Nat) x r, xs[i]? = some x -> rows[i]? = some r -> qAq (fun W => T.rel W x r) W (fun k => ok k /\ ¬ some k = v.ownBlock)) (HF : qAq (fun W => T.rel W y r) W (fun k => ok k /\ ¬ some k = v.ownBlock))
 (hfr : Fr (fun k => some k = v.ownBlock) W w1) (ho : v1.ownBlock = v.ownBlock ∨ ∃ b, v1.ownBlock = some b /\ W.heap.size <= b) : qAo T w1 B e v1 (xs ++ [y]) ok := by
 have hst : ∀ (x : α) (r : List Value), qAq (fun W => T.rel W x r) W (fun k => ok k /\ ¬ some k = v.ownBlock) -> qAq (fun W => T.rel W x r) w1 (fun k => ok k /\ ¬ some k = v1.ownBlock) := fun x r hh =>
  (hh.fr hfr (fun k _ hk => hk.2)).mono (fun k _ hk => ⟨hk.1.1, by
   rcases ho with ho | ⟨b, ho, hb⟩
   · rw [ho]; exact hk.1.2
   rw [ho]; intro e; injection e with e; omega⟩)
 refine ⟨rows ++ [r], hr, by simp [hl], fun i x r' hx hr' => ?_⟩
 rcases Nat.lt_or_ge i xs.length with hi | hi
 · rw [List.getElem?_append_left hi] at hx
   rw [List.getElem?_append_left (by omega)] at hr'
   exact hst x r' (hf i x r' hx hr')
 have : i = xs.length := by have := (List.getElem?_eq_some_iff.1 hx).1; simp at this; omega
 subst this
 rw [List.getElem?_append_right (by omega)] at hx
 rw [List.getElem?_append_right (by omega)] at hr'
 simp only [Nat.sub_self, List.getElem?_cons_zero, Option.some.injEq] at hx
 rw [<- hl] at hr'
 simp only [Nat.sub_self, List.getElem?_cons_zero, Option.some.injEq] at hr'
 subst hx; subst hr'
 exact hst y r HF
end qAo
theorem qHn {α : Type} {T : Ty α} {ok : Nat -> Prop} {ops : Array Oper} {o : Oper} {a : Act} {Q : Exit -> Act -> World -> Prop} {K : Act -> World -> Prop} {B : Nat} {W : World} (s x : Operand) (t e : Nat) (z : Value) (bytes : Nat)
 (ho : o.op = .call { callee := .builtin .append, args := #[s, x], argTypes := #[t, t] }) (ht : prog.underlying t = some (.slice e)) (hinfo : (prog.info? e).map (fun i => (i.zero, i.size, i.bytes)) = some (some z, T.sz, bytes)) (hz : z.cells.size = T.sz) (hsz : 0 < T.sz)
 (v : Value) (xs : List α) (y : α) (r : List Value) (hs : a.eval s = v) (g : Nat) (hx : a.eval x = .slice (some ⟨g, 0, none⟩) 1 1) (hg : g = W.heap.size)
 (HF : qAq (fun W => T.rel W y r) W (fun k => ok k /\ ¬ some k = v.ownBlock)) (HO : qAo T W B e v xs ok) (hB : B <= W.heap.size) (hl : (xs.length + 1) * bytes <= 140737488355328) (hl2 : xs.length + 1 <= 140737488355328)
 (h : ∀ v1 w1, qAo T w1 B e v1 (xs ++ [y]) ok -> Fr (fun k => some k = v.ownBlock) W w1 -> (v1.ownBlock = v.ownBlock ∨ ∃ b, v1.ownBlock = some b /\ W.heap.size <= b) -> K (a.put o.dst v1) w1) :
 o.wp prog a (W.alloc (.cells r.toArray e)) K Q := by
 subst hg
 obtain ⟨rows, hr, hrl, hf⟩ := HO
 refine qI7 B s x t e T.sz z bytes ho ht hinfo hz hsz v rows r hs hx (T.len HF.now) (T.one HF.now) hr hB (by rw [hrl]; exact hl) (by rw [hrl]; exact hl2) ?_
 intro v1 w1 h3 h4 h5
 exact h v1 w1 (qAo.snoc h3 hrl hf HF h4 h5) h4 h5
theorem qCu {α : Type} {T : Ty α} {ok : Nat -> Prop} {ops : Array Oper} {o : Oper} {a : Act} {Q : Exit -> Act -> World -> Prop} {K : Act -> World -> Prop} {w0 W : World} (s x : Operand) (t e : Nat) (z : Value) (bytes : Nat)
 (ho : o.op = .call { callee := .builtin .append, args := #[s, x], argTypes := #[t, t] }) (ht : prog.underlying t = some (.slice e)) (hinfo : (prog.info? e).map (fun i => (i.zero, i.size, i.bytes)) = some (some z, T.sz, bytes)) (hz : z.cells.size = T.sz) (hsz : 0 < T.sz)
 (v : Value) (xs : List α) (y : α) (r : List Value) (hs : a.eval s = v) (g : Nat) (hx : a.eval x = .slice (some ⟨g, 0, none⟩) 1 1) (hg : g = W.heap.size)
 (HF : qAq (fun W => T.rel W y r) W (fun k => ok k /\ ¬ some k = v.ownBlock)) (HO : qAo T W w0.heap.size e v xs ok) (hn : Nw w0 W) (hl : (xs.length + 1) * bytes <= 140737488355328) (hl2 : xs.length + 1 <= 140737488355328)
 (h : ∀ v1 w1, qAo T w1 w0.heap.size e v1 (xs ++ [y]) ok -> Nw w0 w1 -> Fr (fun k => some k = v.ownBlock) W w1 -> (v1.ownBlock = v.ownBlock ∨ ∃ b, v1.ownBlock = some b /\ W.heap.size <= b) -> K (a.put o.dst v1) w1) :
 o.wp prog a (W.alloc (.cells r.toArray e)) K Q :=
 qHn (ops := ops) s x t e z bytes ho ht hinfo hz hsz v xs y r hs g hx hg HF HO hn.size hl hl2 (fun v1 w1 h3 h4 h5 => h v1 w1 h3 (hn.frIn h4 (fun i hi => (qAo.base HO i hi.symm).1)) h4 h5)
theorem qAq.flat {P : World -> Prop} {w : World} {ok : Nat -> Prop} (h : ∀ W, P W) : qAq P w ok := fun W _ => h W
theorem inf146 : (prog.info? 146).map (fun i => (i.zero, i.size, i.bytes)) = some (some (.agg #[.bool false, .string ⟨#[]⟩, .int .u64 0]), qBx.sz, 32) := by kernel_rfl
theorem inf147 : (prog.info? 147).map (fun i => (i.zero, i.size, i.bytes)) = some (some (.agg #[.string ⟨#[]⟩, .string ⟨#[]⟩]), qBy.sz, 32) := by kernel_rfl
theorem inf126 : (prog.info? 126).map (fun i => (i.zero, i.size, i.bytes)) = some (some (.agg #[.string ⟨#[]⟩, .slice none 0 0, .slice none 0 0]), qE2.sz, 64) := by kernel_rfl
theorem qN8 : (prog.info? 124).map (fun i => (i.zero, i.size, i.bytes)) = some (some (.agg #[.string ⟨#[]⟩, .string ⟨#[]⟩, .slice none 0 0]), qC0.sz, 56) := by kernel_rfl
theorem inf78 : (prog.info? 78).map (fun i => (i.zero, i.size, i.bytes)) = some (some (.agg #[.int .i64 0, .int .i64 0, .slice none 0 0]), qDc.sz, 40) := by kernel_rfl
theorem inf74 : (prog.info? 74).map (fun i => (i.zero, i.size, i.bytes)) = some (some (.agg #[.int .u64 0, .int .u64 0, .slice none 0 0]), qCc.sz, 40) := by kernel_rfl
theorem inf81 : (prog.info? 81).map (fun i => (i.zero, i.size, i.bytes)) = some (some (.agg #[.int .u64 0, .int .i64 0]), qDt.sz, 16) := by kernel_rfl
theorem inf86 : (prog.info? 86).map (fun i => (i.zero, i.size, i.bytes)) = some (some (.agg #[.string ⟨#[]⟩, .int .i64 0, .slice none 0 0, .slice none 0 0, .slice none 0 0, .slice none 0 0, .slice none 0 0, .slice none 0 0, .slice none 0 0, .slice none 0 0]), qEj.sz, 216) := by kernel_rfl
set_option maxRecDepth 100000 in
theorem qGb (xs : List Att) (v : Value) (w : World) (h : qBy.Sl w xs v) (hl : xs.length <= 2147483647) :
 Calls prog 30 #[v] w fun e w' => ∃ v', e = .returned v' /\ qAo qBy w' w.heap.size 147 v' xs (fun k => k < w.heap.size) /\ Nw w w' := by
 obtain ⟨A, c, rfl⟩ := Ty.Sl_form h
 go_enter func30, ntmps30
 go_wp2
 go_loopw [3, 8] (fun out i wr => ∃ k : Nat, k <= xs.length /\ i = .int .i64 k /\ qAo qBy wr w.heap.size 147 out (xs.take k) (fun k => k < w.heap.size) /\ Nw w wr) (fun out i _ => xs.length - (intOf i).toNat)
 case atStart => exact ⟨0, Nat.zero_le _, rfl, qAo.nil _ _ _ _ _, Nw.refl _⟩
 obtain ⟨k, hk, rfl, hrow, hnw⟩ := hrel
 by_cases hlt : k < xs.length
 · obtain ⟨b, o, rfl, ha⟩ := Ty.Sl_at h k hlt
   obtain ⟨cs, ⟨rfl, hwf⟩, hx⟩ := ha k _ (List.getElem?_eq_getElem hlt)
   have c0 := hnw.cell (hx 0 _ rfl)
   have c1 := hnw.cell (hx 1 _ rfl)
   simp only [qBy, Ty.flat, Nat.add_zero] at c0 c1
   have HT := hid (qAt hlt)
   have hlk : (xs.take k).length <= k := by simp; omega
   have HF : ∀ (W : World) (ok : Nat -> Prop), qAq (fun W => qBy.rel W xs[k] [.string xs[k].key, .string xs[k].val]) W ok := fun W ok => qAq.flat (fun _ => ⟨rfl, hwf⟩)
   clear hx ha
   go_wp2_with ((refine qAc rfl fun K hK => ?_; (with_reducible refine qCu (ops := #[]) (.tmp 12) (.tmp 18) 40 147 (.agg #[.string ⟨#[]⟩, .string ⟨#[]⟩]) 32 ?_ underlying40 inf147 ?_ ?_ u3 (xs.take k) xs[k] [.string xs[k].key, .string xs[k].val] ?_ ?_ ?_ ?_ (HF _ _) (hrow.nw ((Nw.refl _).alloc _)) (hnw.alloc _) ?_ ?_ ?_); (focus rfl); (focus rfl); (focus decide); (focus rfl); rotate_left 1; (focus rfl); (focus simp only [World.alloc, Array.size_push]); (focus omega); (focus omega); intro v1 w1 hr1 hn1 hf1 ho1; refine hK _ _ ?_))
   exact ⟨⟨k + 1, by omega, by go_num, by rw [HT.out]; exact hr1, hn1⟩, by simp [intOf]; omega⟩
 rw [List.take_of_length_le (by omega)] at hrow
 go_wp2
 go_ret
 exact ⟨_, rfl, hrow, hnw⟩
set_option maxRecDepth 100000 in
theorem qGc (xs : List Bwd) (v : Value) (w : World) (h : qBx.Sl w xs v) (hl : xs.length <= 2147483647) :
 Calls prog 29 #[v] w fun e w' => ∃ v', e = .returned v' /\ qAo qBx w' w.heap.size 146 v' xs (fun k => k < w.heap.size) /\ Nw w w' := by
 obtain ⟨A, c, rfl⟩ := Ty.Sl_form h
 go_enter func29, ntmps29
 go_wp2
 go_loopw [3, 8] (fun out i wr => ∃ k : Nat, k <= xs.length /\ i = .int .i64 k /\ qAo qBx wr w.heap.size 146 out (xs.take k) (fun k => k < w.heap.size) /\ Nw w wr) (fun out i _ => xs.length - (intOf i).toNat)
 case atStart => exact ⟨0, Nat.zero_le _, rfl, qAo.nil _ _ _ _ _, Nw.refl _⟩
 obtain ⟨k, hk, rfl, hrow, hnw⟩ := hrel
 by_cases hlt : k < xs.length
 · obtain ⟨b, o, rfl, ha⟩ := Ty.Sl_at h k hlt
   obtain ⟨cs, ⟨rfl, hwf⟩, hx⟩ := ha k _ (List.getElem?_eq_getElem hlt)
   have c0 := hnw.cell (hx 0 _ rfl)
   have c1 := hnw.cell (hx 1 _ rfl)
   have c2 := hnw.cell (hx 2 _ rfl)
   simp only [qBx, Ty.flat, Nat.add_zero] at c0 c1 c2
   have HT := hid (qAt hlt)
   have hlk : (xs.take k).length <= k := by simp; omega
   have HF : ∀ (W : World) (ok : Nat -> Prop), qAq (fun W => qBx.rel W xs[k] [.bool xs[k].x, .string xs[k].ty, .int .u64 xs[k].n]) W ok := fun W ok => qAq.flat (fun _ => ⟨rfl, hwf⟩)
   clear hx ha
   go_wp2_with ((refine qAc rfl fun K hK => ?_; (with_reducible refine qCu (ops := #[]) (.tmp 12) (.tmp 20) 37 146 (.agg #[.bool false, .string ⟨#[]⟩, .int .u64 0]) 32 ?_ underlying37 inf146 ?_ ?_ u3 (xs.take k) xs[k] [.bool xs[k].x, .string xs[k].ty, .int .u64 xs[k].n] ?_ ?_ ?_ ?_ (HF _ _) (hrow.nw ((Nw.refl _).alloc _)) (hnw.alloc _) ?_ ?_ ?_); (focus rfl); (focus rfl); (focus decide); (focus rfl); rotate_left 1; (focus rfl); (focus simp only [World.alloc, Array.size_push]); (focus omega); (focus omega); intro v1 w1 hr1 hn1 hf1 ho1; refine hK _ _ ?_))
   exact ⟨⟨k + 1, by omega, by go_num, by rw [HT.out]; exact hr1, hn1⟩, by simp [intOf]; omega⟩
 rw [List.take_of_length_le (by omega)] at hrow
 go_wp2
 go_ret
 exact ⟨_, rfl, hrow, hnw⟩
theorem Fr.frozen {S : Nat -> Prop} {w w' : World} (h : Fr S w w') {p : Addr} {u : Value} {b : Bool} (hs : ¬ S p.block) (hc : w.cell? p = some u) (hf : w.frozen? p = b) : w'.frozen? p = b := by
 rw [<- hf]
 unfold World.frozen?
 rw [h.block p.block (World.block_lt_of_cell? w p hc) hs]
theorem qAo.fr {α : Type} {T : Ty α} {w w1 : World} {B e : Nat} {v : Value} {xs : List α} {ok S : Nat -> Prop} (h : qAo T w B e v xs ok) (hf : Fr S w w1) (h1 : ∀ k, v.ownBlock = some k -> ¬ S k) (h2 : ∀ k, k < w.heap.size -> ok k -> ¬ S k) : qAo T w1 B e v xs ok := by
 obtain ⟨rows, hr, hl, hg⟩ := h
 exact ⟨rows, hr.fr hf h1, hl, fun i x r hx hr' => ((hg i x r hx hr').fr hf (fun k hk hk' => h2 k hk hk'.1)).mono (fun k _ hk => hk.1)⟩
set_option maxRecDepth 100000 in
set_option maxHeartbeats 1000000 in
theorem qFi (xs : List Con) (v : Value) (w0 w : World) (hn0 : Nw w0 w) (h : qC0.Sl w0 xs v) (hl : xs.length <= 2147483647) (hl2 : ∀ x ∈ xs, x.adrs.length <= 2147483647) :
 Calls prog 28 #[v] w fun e w' => ∃ v', e = .returned v' /\ qAo qC0 w' w.heap.size 124 v' xs (fun k => k < w0.heap.size ∨ w.heap.size <= k) /\ Nw w w' := by
 obtain ⟨A, c, rfl⟩ := Ty.Sl_form h
 have HL := hid hl2
 clear hl2
 go_enter func28, ntmps28
 go_wp2
 go_loopw [3, 11] (fun out i wr => ∃ k : Nat, k <= xs.length /\ i = .int .i64 k /\ qAo qC0 wr w.heap.size 124 out (xs.take k) (fun k => k < w0.heap.size ∨ w.heap.size <= k) /\ Nw w wr) (fun out i _ => xs.length - (intOf i).toNat)
 case atStart => exact ⟨0, Nat.zero_le _, rfl, qAo.nil _ _ _ _ _, Nw.refl _⟩
 obtain ⟨k, hk, rfl, hrow, hnw⟩ := hrel
 by_cases hlt : k < xs.length
 · obtain ⟨b, o, rfl, ha⟩ := Ty.Sl_at h k hlt
   obtain ⟨cs, ⟨v1, rfl, hw0, hw1, h1⟩, hx⟩ := ha k _ (List.getElem?_eq_getElem hlt)
   obtain ⟨A1, n1, rfl⟩ := Ty.Sl_form h1
   have c0 := (hn0.trans hnw).cell (hx 0 _ rfl)
   have c1 := (hn0.trans hnw).cell (hx 1 _ rfl)
   have c2 := (hn0.trans hnw).cell (hx 2 _ rfl)
   simp only [qC0, Nat.add_zero] at c0 c1 c2
   have HT := hid (qAt hlt)
   have hlk : (xs.take k).length <= k := by simp; omega
   have hml := HL.out _ (List.getElem_mem hlt)
   clear hx ha
   obtain ⟨t, ht⟩ : ∃ t, t = xs[k] := ⟨_, rfl⟩
   rw [<- ht] at c0 c1 hw0 hw1 h1 HT hml c2
   clear ht
   go_upto_region 6 with fail
   obtain ⟨wB, hwB⟩ : ∃ wB, wB = (wr.alloc (.cells #[.string t.net, .string t.addr, .slice A1 t.adrs.length n1] 135)).alloc (.cells #[.string t.net, .string t.addr, .slice none 0 0] 124) := ⟨_, rfl⟩
   obtain ⟨g, hg⟩ : ∃ g, g = wr.heap.size + 1 := ⟨_, rfl⟩
   have hqB : Nw wr wB := by rw [hwB]; exact ((Nw.refl wr).alloc _).alloc _
   have hsB : wB.heap.size = g + 1 := by rw [hwB, hg]; simp
   have b0 : wB.cell? ⟨g, 0, none⟩ = some (.string t.net) := by rw [hwB, hg]; go_simp
   have b1 : wB.cell? ⟨g, 1, none⟩ = some (.string t.addr) := by rw [hwB, hg]; go_simp
   have b2 : wB.cell? ⟨g, 2, none⟩ = some (.slice none 0 0) := by rw [hwB, hg]; go_simp
   have bf : wB.frozen? ⟨g, 2, none⟩ = false := by rw [hwB, hg]; go_simp
   have a2 : wB.cell? ⟨wr.heap.size, 2, none⟩ = some (.slice A1 t.adrs.length n1) := by rw [hwB]; go_simp
   have hown : ∀ k, u3.ownBlock = some k -> w.heap.size <= k /\ k < wr.heap.size := qAo.base hrow
   have hnB := hnw.trans hqB
   have hrowB := hrow.nw hqB
   have hgw : wr.heap.size < g := by omega
   rw [<- hwB, <- hg]
   clear hwB hg c0 c1 c2
   have HOWN := hid hown
   clear hown
   go_wp2
   go_loopw [23] (fun i wi => ∃ j z, j <= t.adrs.length /\ i = .int .i64 j /\ qAo qE2 wi wB.heap.size 126 z (t.adrs.take j) (fun k => k < w0.heap.size) /\ Fr (fun k => k = g) wB wi /\ wi.cell? ⟨g, 0, none⟩ = some (.string t.net) /\ wi.cell? ⟨g, 1, none⟩ = some (.string t.addr) /\ wi.cell? ⟨g, 2, none⟩ = some z /\ wi.frozen? ⟨g, 2, none⟩ = false) (fun i _ => t.adrs.length - (intOf i).toNat)
   case atStart => exact ⟨0, _, Nat.zero_le _, rfl, qAo.nil _ _ _ _ _, Fr.refl _ _, b0, b1, b2, bf⟩
   obtain ⟨j, z, hj, rfl, hrz, hfz, d0, d1, d2, df⟩ := hrel
   have hqz := hqB.frIn hfz (fun i hi => by omega)
   obtain ⟨Az, nz, cz, rfl⟩ := qAo.form' hrz
   have hnz := hnw.trans hqz
   have hnz0 := hn0.trans hnz
   have hsw0 := hn0.size
   have hswr := hnw.size
   have hsqB := hqB.size
   by_cases hlt2 : j < t.adrs.length
   · obtain ⟨b9, o9, rfl, ha2⟩ := Ty.Sl_at h1 j hlt2
     obtain ⟨cs, ⟨p1, p2, rfl, hw2, t1, t2⟩, hx⟩ := ha2 j _ (List.getElem?_eq_getElem hlt2)
     have c0 := hnz0.cell (hx 0 _ rfl)
     have c1 := hnz0.cell (hx 1 _ rfl)
     have c2 := hnz0.cell (hx 2 _ rfl)
     simp only [qE2, Nat.add_zero] at c0 c1 c2
     have HT2 := hid (qAt hlt2)
     have hlk2 : (t.adrs.take j).length <= j := by simp; omega
     have HF : Hid (qAq (fun W => qE2.rel W t.adrs[j] [.string t.adrs[j].addr, p1, p2]) w0 (fun k => k < w0.heap.size)) := hid (Ty.foot_in (T := qE2) (x := t.adrs[j]) (cs := [.string t.adrs[j].addr, p1, p2]) ⟨p1, p2, rfl, hw2, t1, t2⟩)
     clear hx ha2
     obtain ⟨A2, n2, rfl⟩ := Ty.Sl_form t1
     obtain ⟨A3, n3, rfl⟩ := Ty.Sl_form t2
     obtain ⟨y, hy⟩ : ∃ y, y = t.adrs[j] := ⟨_, rfl⟩
     rw [<- hy] at c0 c1 c2 HT2 HF t1 t2
     clear hy
     have hzo : ∀ i, (Value.slice Az nz cz).ownBlock = some i -> wB.heap.size <= i := fun i hi => (qAo.base hrz i hi).1
     have hwz := hfz.size
     have hsw := hnw.size
     have hF2 : qAq (fun W => qE2.rel W y [.string y.addr, .slice A2 y.ttl.length n2, .slice A3 y.rng.length n3]) wr (fun k => k < w0.heap.size /\ ¬ some k = (Value.slice Az nz cz).ownBlock) := by
      have := (HF.out.nw hnz0).mono (ok' := fun k => k < w0.heap.size /\ ¬ some k = (Value.slice Az nz cz).ownBlock) (fun k _ hk => ⟨hk.2, fun e => by have := hzo k e.symm; omega⟩)
      exact this
     have hF3 : qAq (fun W => qE2.rel W y [.string y.addr, .slice A2 y.ttl.length n2, .slice A3 y.rng.length n3]) (wr.alloc (.cells #[.string y.addr, .slice A2 y.ttl.length n2, .slice A3 y.rng.length n3] 145)) (fun k => k < w0.heap.size /\ ¬ some k = (Value.slice Az nz cz).ownBlock) := (hF2.nw ((Nw.refl _).alloc _)).mono (fun k _ hk => hk.1)
     have d2a := Nw.cell ((Nw.refl wr).alloc (.cells #[.string y.addr, .slice A2 y.ttl.length n2, .slice A3 y.rng.length n3] 145)) d2
     have hzg : ¬ some g = (Value.slice Az nz cz).ownBlock := fun e => by have := hzo g e.symm; omega
     go_wp2_with ((refine qAc rfl fun K hK => ?_; (with_reducible refine qHn (ops := #[]) (.tmp 28) (.tmp 36) 122 126 (.agg #[.string ⟨#[]⟩, .slice none 0 0, .slice none 0 0]) 64 ?_ underlying122 inf126 ?_ ?_ (.slice Az nz cz) (t.adrs.take j) y [.string y.addr, .slice A2 y.ttl.length n2, .slice A3 y.rng.length n3] ?_ ?_ ?_ ?_ hF3 (hrz.nw ((Nw.refl _).alloc _)) (Nat.le_trans hwz (Nw.size ((Nw.refl _).alloc _))) ?_ ?_ ?_); (focus rfl); (focus rfl); (focus decide); (focus rfl); rotate_left 1; (focus rfl); (focus simp only [World.alloc, Array.size_push]); (focus omega); (focus omega); intro v5 w5 hr5 hf5 ho5; refine hK _ _ ?_); obtain ⟨Av, nv, cv, rfl⟩ := qAo.form' hr5; have e0 := hf5.cell hzg (Nw.cell ((Nw.refl _).alloc _) d0); have e1 := hf5.cell hzg (Nw.cell ((Nw.refl _).alloc _) d1); have e2 := hf5.cell hzg (Nw.cell ((Nw.refl _).alloc _) d2); have ef := hf5.frozen hzg d2a ((Nw.frozen ((Nw.refl _).alloc _) (World.block_lt_of_cell? _ _ d2)).trans df))
     have hX : Fr (fun k => k = g) wB w5 := (hfz.alloc _).trans (hf5.mono (fun k _ e => .inr (hzo k e.symm)))
     have hvg : ∀ k, (Value.slice Av nv cv).ownBlock = some k -> ¬ k = g := fun k hk e => by
      rcases ho5 with h6 | ⟨b6, h6, h7⟩
      · have := hzo k (by rw [<- h6, hk]); omega
      rw [hk] at h6; injection h6 with h6
      simp only [World.alloc, Array.size_push] at h7
      omega
     refine ⟨⟨j + 1, .slice Av nv cv, by omega, by go_num, ?_, hX.setCell (.inl rfl) _, by go_simp, by go_simp, by go_simp, ?_⟩, by simp [intOf]; omega⟩
     · rw [HT2.out]
       exact hr5.fr ((Fr.refl (fun k => k = g) w5).setCell (.inl rfl) _) hvg (fun k _ hk e => by omega)
     rw [World.frozen?_setCell]; exact ef
   rw [List.take_of_length_le (by omega)] at hrz
   have hml2 : t.adrs.length <= 140737488355328 := by omega
   have hszz := hfz.size
   have HFz : qAq (fun W => qC0.rel W t [.string t.net, .string t.addr, .slice Az nz cz]) wr (fun k => (k < w0.heap.size ∨ w.heap.size <= k) /\ ¬ some k = u3.ownBlock) :=
    (qAq.imp (qAo.foot hrz hml2) (Q := fun W => qC0.rel W t [.string t.net, .string t.addr, .slice Az nz cz]) (fun W' h' => ⟨_, rfl, hw0, hw1, h'⟩)).mono (fun k _ hk => ⟨by rcases hk with hk | hk <;> omega, fun e => by
     have := HOWN.out k e.symm
     rcases hk with hk | hk <;> omega⟩)
   have hrow7 := hrow.nw hqz
   clear hrow hrowB
   go_wp2_with ((refine qAc rfl fun K hK => ?_; (with_reducible refine qCu (ops := #[]) (.tmp 40) (.tmp 42) 36 124 (.agg #[.string ⟨#[]⟩, .string ⟨#[]⟩, .slice none 0 0]) 56 ?_ underlying36 qN8 ?_ ?_ u3 (xs.take k) t [.string t.net, .string t.addr, .slice Az nz cz] ?_ ?_ ?_ ?_ HFz hrow7 hnz ?_ ?_ ?_); (focus rfl); (focus rfl); (focus decide); (focus rfl); rotate_left 1; (focus rfl); (focus simp only [World.alloc, Array.size_push]); (focus omega); (focus omega); intro v1 w9 hr9 hn9 hf9 ho9; refine hK _ _ ?_))
   exact ⟨⟨k + 1, by omega, by go_num, by rw [HT.out]; exact hr9, hn9⟩, by simp [intOf]; omega⟩
 rw [List.take_of_length_le (by omega)] at hrow
 go_wp2
 go_ret
 exact ⟨_, rfl, hrow, hnw⟩
end Go.Proofs.YtcepdjlknalmnaaGreatDoor

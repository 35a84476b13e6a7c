/- Laws of this claim. -/
import Derived.Test.YtcepdjlknalmnaaGreatDoorProg
import Derived.WalkKit
import Derived.WalkLawsBesides
import Derived.WalkSpells
import Derived.Deep.QuietTactic
import Derived.BigQuiet
import Derived.Outline
import Derived.Lib.Hide
import Derived.Deep.AppendLies
import Derived.Maps.AppendAt
import Derived.Laws.AppendOwnNone
namespace Go.Proofs.YtcepdjlknalmnaaGreatDoor
open List (mem_cons not_mem_nil)
open Go.RowKit
structure Fr (S : Nat -> Prop) (w w' : World) : Prop where
 os : w'.os = w.os
 tape : w'.tape = w.tape
 output : w'.output = w.output
 size : w.heap.size <= w'.heap.size
 block : ∀ k, k < w.heap.size -> ¬ S k -> w'.heap[k]? = w.heap[k]?
def Nw (w w' : World) : Prop := Below w.heap.size w w'
theorem Nw.refl (w : World) : Nw w w := Below.refl _ _
theorem Nw.size {w w' : World} (h : Nw w w') : w.heap.size <= w'.heap.size := Below.size h
theorem Nw.block {w w' : World} (h : Nw w w') : ∀ k, k < w.heap.size -> w'.heap[k]? = w.heap[k]? := Below.block h
theorem Nw.trans {a b c : World} (h : Nw a b) (k : Nw b c) : Nw a c := Below.trans h (Below.mono k (Below.size h))
theorem Nw.drewN {a w : World} (h : Nw a w) (n : Nat) : Nw a (w.drewN n) := ⟨h.os, h.tape, h.output, h.size, h.block⟩
theorem Nw.drew {a w : World} (h : Nw a w) : Nw a w.drew := ⟨h.os, h.tape, h.output, h.size, h.block⟩
theorem Nw.alloc {a w : World} (h : Nw a w) (o : Obj) : Nw a (w.alloc o) := Below.alloc h h.size o
theorem Nw.setCell {a w : World} (h : Nw a w) {p : Addr} (hp : a.heap.size <= p.block) (u : Value) : Nw a (w.setCell p u) := Below.setCell h hp u
theorem Nw.cell {w w' : World} (h : Nw w w') {p : Addr} {u : Value} (hc : w.cell? p = some u) : w'.cell? p = some u :=
 (Below.cell h (World.block_lt_of_cell? w p hc)).trans hc
theorem Nw.frozen {w w' : World} (h : Nw w w') {p : Addr} (hp : p.block < w.heap.size) : w'.frozen? p = w.frozen? p := Below.frozen h hp
theorem Nw.box {w w1 : World} {X : Obj} (h : Nw (w.alloc X) w1) : ∀ o, w1.cell? ⟨w.heap.size, o, none⟩ = (w.alloc X).cell? ⟨w.heap.size, o, none⟩ := fun o => Below.cell (p := ⟨w.heap.size, o, none⟩) h (by simp)
theorem Fr.refl (S : Nat -> Prop) (w : World) : Fr S w w := ⟨rfl, rfl, rfl, Nat.le_refl _, fun _ _ _ => rfl⟩
theorem Fr.trans {S : Nat -> Prop} {a b c : World} (h : Fr S a b) (k : Fr (fun i => S i ∨ a.heap.size <= i) b c) : Fr S a c :=
 ⟨k.os.trans h.os, k.tape.trans h.tape, k.output.trans h.output, Nat.le_trans h.size k.size, fun i hi hs => (k.block i (Nat.lt_of_lt_of_le hi h.size) (fun e => e.elim hs (fun e => by omega))).trans (h.block i hi hs)⟩
theorem Fr.mono {S T : Nat -> Prop} {a b : World} (h : Fr S a b) (hs : ∀ k, k < a.heap.size -> S k -> T k) : Fr T a b := ⟨h.os, h.tape, h.output, h.size, fun i hi ht => h.block i hi (fun e => ht (hs i hi e))⟩
theorem Nw.fr {w w' : World} (h : Nw w w') (S : Nat -> Prop) : Fr S w w' := ⟨h.os, h.tape, h.output, h.size, fun i hi _ => h.block i hi⟩
theorem Fr.nw {w w' : World} (h : Fr (fun _ => False) w w') : Nw w w' := ⟨h.os, h.tape, h.output, h.size, fun i hi => h.block i hi (fun e => e)⟩
theorem Fr.drewN {S : Nat -> Prop} {a w : World} (h : Fr S a w) (n : Nat) : Fr S a (w.drewN n) := ⟨h.os, h.tape, h.output, h.size, h.block⟩
theorem Fr.drew {S : Nat -> Prop} {a w : World} (h : Fr S a w) : Fr S a w.drew := ⟨h.os, h.tape, h.output, h.size, h.block⟩
theorem Fr.alloc {S : Nat -> Prop} {a w : World} (h : Fr S a w) (o : Obj) : Fr S a (w.alloc o) := h.trans ((Nw.alloc (Nw.refl w) o).fr _)
theorem Fr.setCell {S : Nat -> Prop} {a w : World} (h : Fr S a w) {p : Addr} (hp : S p.block ∨ a.heap.size <= p.block) (u : Value) : Fr S a (w.setCell p u) :=
 h.trans ⟨rfl, rfl, rfl, by simp [World.setCell], fun k _ hk => Below.heap_setCell _ _ _ _ (fun e => hk (e ▸ hp))⟩
theorem Fr.grown {S : Nat -> Prop} {a w w' : World} {row : Option Nat} (h : Fr S a w) (hg : w.grownBy w' row) (hr : ∀ k, row = some k -> S k ∨ a.heap.size <= k) : Fr S a w' :=
 h.trans ⟨hg.os, hg.tape, hg.output, hg.size, fun k hk hs => hg.block k hk (fun e => hs (hr k e.symm))⟩
theorem Nw.grown {a w w' : World} {row : Option Nat} (h : Nw a w) (hg : w.grownBy w' row) (hr : ∀ k, row = some k -> a.heap.size <= k) : Nw a w' := Below.grown h hg h.size hr
theorem Nw.frIn {S : Nat -> Prop} {a w w' : World} (h : Nw a w) (k : Fr S w w') (hs : ∀ i, S i -> a.heap.size <= i) : Nw a w' :=
 ⟨k.os.trans h.os, k.tape.trans h.tape, k.output.trans h.output, Nat.le_trans h.size k.size, fun i hi => (k.block i (Nat.lt_of_lt_of_le hi h.size) (fun e => by have := hs i e; omega)).trans (h.block i hi)⟩
def qAq (P : World -> Prop) (W : World) (ok : Nat -> Prop) : Prop := ∀ W' : World, (∀ k, ok k -> k < W.heap.size -> W'.heap[k]? = W.heap[k]?) -> P W'
namespace qAq
variable {P Q : World -> Prop} {W W1 : World} {ok ok' S : Nat -> Prop}
theorem now (h : qAq P W ok) : P W := h W (fun _ _ _ => rfl)
theorem mono (h : qAq P W ok) (hok : ∀ k, k < W.heap.size -> ok k -> ok' k) : qAq P W ok' := fun W' hW => h W' (fun k hk hlt => hW k (hok k hlt hk) hlt)
theorem step (h : qAq P W ok) (hm : ∀ k, ok k -> k < W.heap.size -> W1.heap[k]? = W.heap[k]?) : qAq P W1 (fun k => ok k /\ k < W.heap.size) := fun W' hW => h W' (fun k hk hlt => by
 have h1 := hm k hk hlt
 have h2 : k < W1.heap.size := by
  rw [Array.getElem?_eq_getElem hlt] at h1
  exact (Array.getElem?_eq_some_iff.1 h1).1
 exact (hW k ⟨hk, hlt⟩ h2).trans h1)
theorem fr (h : qAq P W ok) (hf : Fr S W W1) (hs : ∀ k, k < W.heap.size -> ok k -> ¬ S k) : qAq P W1 (fun k => ok k /\ k < W.heap.size) := h.step (fun k hk hlt => hf.block k hlt (hs k hlt hk))
theorem nw (h : qAq P W ok) (hf : Nw W W1) : qAq P W1 (fun k => ok k /\ k < W.heap.size) := h.step (fun k _ hlt => hf.block k hlt)
theorem imp (h : qAq P W ok) (hi : ∀ W', P W' -> Q W') : qAq Q W ok := fun W' hW => hi W' (h W' hW)
theorem and (h : qAq P W ok) (k : qAq Q W ok) : qAq (fun w => P w /\ Q w) W ok := fun W' hW => ⟨h W' hW, k W' hW⟩
end qAq
structure Ty (α : Type) where
 sz : Nat
 rel : World -> α -> List Value -> Prop
 len : ∀ {w x cs}, rel w x cs -> cs.length = sz
 one : ∀ {w x cs}, rel w x cs -> ∀ u ∈ cs, u.oneCell' = true
 loc : ∀ {w w' : World} {x cs}, (∀ k, k < w.heap.size -> w'.heap[k]? = w.heap[k]?) -> rel w x cs -> rel w' x cs
theorem cell_loc {w w' : World} (h : ∀ k, k < w.heap.size -> w'.heap[k]? = w.heap[k]?) {p : Addr} {u : Value} (hc : w.cell? p = some u) : w'.cell? p = some u :=
 (World.cell?_of_block (w := w) (h p.block (World.block_lt_of_cell? w p hc))).trans hc
namespace Ty
variable {α : Type} {T : Ty α}
def At (T : Ty α) (w : World) (xs : List α) (b o : Nat) : Prop := ∀ k x, xs[k]? = some x -> ∃ cs, T.rel w x cs /\ ∀ j u, cs[j]? = some u -> w.cell? ⟨b, o + k * T.sz + j, none⟩ = some u
def Sl (T : Ty α) (w : World) (xs : List α) (v : Value) : Prop :=
 xs.length <= 140737488355328 /\ ((xs = [] /\ ∃ A c, v = .slice A 0 c /\ (A = none -> c = 0)) ∨ (0 < xs.length /\ ∃ b o c, v = .slice (some ⟨b, o, none⟩) xs.length c /\ xs.length <= c /\ T.At w xs b o))
theorem At_loc {w w' : World} (h : ∀ k, k < w.heap.size -> w'.heap[k]? = w.heap[k]?) {xs : List α} {b o : Nat} (ha : T.At w xs b o) : T.At w' xs b o := fun k x hx => by
 obtain ⟨cs, hr, hc⟩ := ha k x hx
 exact ⟨cs, T.loc h hr, fun j u hu => cell_loc h (hc j u hu)⟩
theorem Sl_loc {w w' : World} (h : ∀ k, k < w.heap.size -> w'.heap[k]? = w.heap[k]?) {xs : List α} {v : Value} (hs : T.Sl w xs v) : T.Sl w' xs v := by
 obtain ⟨h0, hs⟩ := hs
 refine ⟨h0, ?_⟩
 rcases hs with hs | ⟨hp, b, o, c, rfl, hc, ha⟩
 · exact .inl hs
 exact .inr ⟨hp, b, o, c, rfl, hc, At_loc h ha⟩
theorem Sl_form {w : World} {xs : List α} {v : Value} (h : T.Sl w xs v) : ∃ A c, v = .slice A xs.length c := by
 rcases h.2 with ⟨rfl, A, c, rfl, _⟩ | ⟨_, b, o, c, rfl, _⟩
 · exact ⟨A, c, rfl⟩
 exact ⟨_, c, rfl⟩
theorem Sl_nil (T : Ty α) (w : World) : T.Sl w [] (.slice none 0 0) := ⟨by simp, .inl ⟨rfl, none, 0, rfl, fun _ => rfl⟩⟩
def sl (T : Ty α) : Ty (List α) where
 sz := 1
 rel := fun w xs cs => ∃ v, cs = [v] /\ T.Sl w xs v
 len := by rintro w xs cs ⟨v, rfl, _⟩; rfl
 one := by
  rintro w xs cs ⟨v, rfl, h⟩ u hu
  obtain ⟨A, c, rfl⟩ := Sl_form h
  rw [List.mem_singleton.1 hu]; rfl
 loc := by
  rintro w w' xs cs h ⟨v, rfl, hs⟩
  exact ⟨v, rfl, Sl_loc h hs⟩
def flat (sz : Nat) (enc : α -> List Value) (wf : α -> Prop) (hl : ∀ x, (enc x).length = sz) (h1 : ∀ x, ∀ u ∈ enc x, u.oneCell' = true) : Ty α where
 sz := sz
 rel := fun _ x cs => cs = enc x /\ wf x
 len := by rintro w x cs ⟨rfl, _⟩; exact hl x
 one := by rintro w x cs ⟨rfl, _⟩; exact h1 x
 loc := fun _ h => h
theorem foot_in {w : World} {x : α} {cs : List Value} (h : T.rel w x cs) : qAq (fun W => T.rel W x cs) w (fun k => k < w.heap.size) := fun _ hW => T.loc (fun k hk => hW k hk hk) h
end Ty
def qBj : Nat := 1152921504606846976
def qAb (s : ByteArray) : Prop := s.size <= qBj
def qAg (k : IntKind) (n : Int) : Prop := k.min <= n /\ n <= k.max
def qAd : Ty ByteArray := Ty.flat 1 (fun s => [.string s]) qAb (fun _ => rfl) (fun _ u hu => by rw [List.mem_singleton.1 hu]; rfl)
def qCn (k : IntKind) : Ty Int := Ty.flat 1 (fun n => [.int k n]) (qAg k) (fun _ => rfl) (fun _ u hu => by rw [List.mem_singleton.1 hu]; rfl)
def Row (w : World) (B e sz : Nat) (v : Value) (rows : List (List Value)) : Prop := (∀ r ∈ rows, r.length = sz /\ ∀ u ∈ r, u.oneCell' = true) /\ w.ownsRow B e sz v rows.length rows.flatten
theorem qEz {sz : Nat} : ∀ {rows : List (List Value)}, (∀ r ∈ rows, r.length = sz) -> rows.flatten.length = rows.length * sz
 | [], _ => by simp
 | r :: rows, h => by
  rw [List.flatten_cons, List.length_append, qEz (fun r hr => h r (List.mem_cons_of_mem _ hr)), h r List.mem_cons_self, List.length_cons, Nat.succ_mul, Nat.add_comm]
theorem qE0 {sz : Nat} : ∀ {rows : List (List Value)} {k j : Nat} {r : List Value} {u : Value}, (∀ r ∈ rows, r.length = sz) -> rows[k]? = some r -> r[j]? = some u -> rows.flatten[k * sz + j]? = some u
 | [], k, _, _, _, _, hk, _ => by simp at hk
 | r0 :: rows, 0, j, r, u, h, hk, hj => by
  obtain rfl : r0 = r := by simpa using hk
  have hlt := (List.getElem?_eq_some_iff.1 hj).1
  rw [List.flatten_cons, List.getElem?_append_left (by omega)]
  simpa using hj
 | r0 :: rows, k + 1, j, r, u, h, hk, hj => by
  have h0 := h r0 List.mem_cons_self
  rw [List.flatten_cons, List.getElem?_append_right (by rw [h0, Nat.succ_mul]; omega), h0, show (k + 1) * sz + j - sz = k * sz + j by rw [Nat.succ_mul]; omega]
  exact qE0 (fun r hr => h r (List.mem_cons_of_mem _ hr)) (by simpa using hk) hj
namespace Row
variable {w w1 : World} {B e sz : Nat} {v : Value} {rows : List (List Value)}
theorem nil (w : World) (B e sz : Nat) : Row w B e sz (.slice none 0 0) [] := ⟨by simp, World.ownsRow_nil _ _ _ _⟩
theorem form (h : Row w B e sz v rows) : ∃ A c, v = .slice A rows.length c /\ rows.length <= c := by
 rcases h.2.2 with ⟨rfl, h0⟩ | ⟨g, cap, cur, rfl, _, _, hc, _⟩
 · exact ⟨none, 0, by rw [h0], by omega⟩
 exact ⟨_, cap, rfl, hc⟩
theorem base (h : Row w B e sz v rows) : ∀ k, v.ownBlock = some k -> B <= k /\ k < w.heap.size := h.2.lt
theorem move (h : Row w B e sz v rows) (hm : ∀ k, v.ownBlock = some k -> w1.heap[k]? = w.heap[k]?) : Row w1 B e sz v rows := by
 refine ⟨h.1, h.2.1, ?_⟩
 rcases h.2.2 with h2 | ⟨g, cap, cur, rfl, hg, hh, r⟩
 · exact .inl h2
 exact .inr ⟨g, cap, cur, rfl, hg, (hm g rfl).trans hh, r⟩
theorem fr {S : Nat -> Prop} (h : Row w B e sz v rows) (hf : Fr S w w1) (hs : ∀ k, v.ownBlock = some k -> ¬ S k) : Row w1 B e sz v rows := h.move (fun k hk => hf.block k (h.base k hk).2 (hs k hk))
theorem nw (h : Row w B e sz v rows) (hf : Nw w w1) : Row w1 B e sz v rows := h.move (fun k hk => hf.block k (h.base k hk).2)
theorem alloc (h : Row w B e sz v rows) (o : Obj) : Row (w.alloc o) B e sz v rows := h.nw ((Nw.refl w).alloc o)
theorem lower {B' : Nat} (h : Row w B e sz v rows) (hb : B' <= B) : Row w B' e sz v rows := by
 refine ⟨h.1, h.2.1, ?_⟩
 rcases h.2.2 with h2 | ⟨g, cap, cur, rfl, hg, r⟩
 · exact .inl h2
 exact .inr ⟨g, cap, cur, rfl, by omega, r⟩
theorem sl {α : Type} {T : Ty α} {xs : List α} (h : Row w B e T.sz v rows) (hl : xs.length = rows.length) (hm : rows.length <= 140737488355328) (hr : ∀ (k : Nat) (x : α) (r : List Value), xs[k]? = some x -> rows[k]? = some r -> T.rel w x r) : T.Sl w xs v := by
 refine ⟨by omega, ?_⟩
 rcases Nat.eq_zero_or_pos xs.length with h0 | h0
 · rcases h.2.2 with ⟨rfl, h1⟩ | ⟨g, cap, cur, rfl, _⟩
   · exact .inl ⟨List.eq_nil_of_length_eq_zero h0, none, 0, rfl, fun _ => rfl⟩
   exact .inl ⟨List.eq_nil_of_length_eq_zero h0, _, cap, by rw [<- hl, h0], fun e => by cases e⟩
 rcases h.2.2 with ⟨_, h1⟩ | ⟨g, cap, cur, rfl, hg, hh, hc, _⟩
 · omega
 refine .inr ⟨h0, g, 0, cap, by rw [hl], by omega, fun k x hx => ?_⟩
 have hk : k < rows.length := by have := (List.getElem?_eq_some_iff.1 hx).1; omega
 refine ⟨rows[k], hr k x _ hx (List.getElem?_eq_getElem hk), fun j u hu => ?_⟩
 have h2 := h.2.cells (g := g) rfl (k * T.sz + j) u (qE0 (fun r hr => (h.1 r hr).1) (List.getElem?_eq_getElem hk) hu)
 have ha : (⟨g, 0, none⟩ : Addr).add (k * T.sz + j) = ⟨g, 0 + k * T.sz + j, none⟩ := by unfold Addr.add; split <;> simp_all
 rwa [ha] at h2
end Row
theorem Row.slFlat {α : Type} {w : World} {B e sz : Nat} {v : Value} {enc : α -> List Value} {wf : α -> Prop} {hl : ∀ x, (enc x).length = sz} {h1 : ∀ x, ∀ u ∈ enc x, u.oneCell' = true} {xs : List α} (h : Row w B e sz v (xs.map enc)) (hm : xs.length <= 140737488355328) (hw : ∀ x ∈ xs, wf x) : (Ty.flat sz enc wf hl h1).Sl w xs v :=
 Row.sl (T := Ty.flat sz enc wf hl h1) h (by simp) (by simpa using hm) (fun k x r hx hr => by
  rw [List.getElem?_map, hx] at hr
  simp only [Option.map_some, Option.some.injEq] at hr
  exact ⟨hr.symm, hw x (List.mem_of_getElem? hx)⟩)
section
variable {P : Program} {ops : Array Oper} {rest : List Oper} {o : Oper} {a : Act} {Q : Exit -> Act -> World -> Prop} {K : Act -> World -> Prop}
theorem qAc (hgd : o.guard = none) {w : World} (h : ∀ K : Act -> World -> Prop, (∀ a w, wpList P ops Q rest a w -> K a w) -> o.wp P a w K Q) : wpList P ops Q (o :: rest) a w := wpList_plain hgd h
theorem qA3 {E : Prop} (hgd : o.guard = none) {w : World} (h : o.wp P a w K Q) : if Region.wanted o (yielded ops a.tmps) = true then Oper.wp P o a w K Q else E := by
 rw [if_pos (by simp [Region.wanted, hgd])]
 exact h
theorem qDo (w : World) (s x : Operand) (t : TypeId) (ho : o.op = .call { callee := .builtin .append, args := #[s, x], argTypes := #[t, t] })
 (base : Nat) (e : TypeId) (i : TypeInfo) (z : Value) (size bytes : Nat) (ht : P.underlying t = some (.slice e)) (hi : P.info? e = some i) (hz : i.zero = some z)
 (hsize : i.size = size) (hby : i.bytes = bytes) (hzs : z.cells.size = size) (hsz : 0 < size)
 (v : Value) (n : Nat) (xs : List Value) (hs : a.eval s = v) (hown : w.ownsRow base e size v n xs)
 (ad : Addr) (m c : Nat) (news : List Value) (hx : a.eval x = .slice (some ad) m c) (hl : news.length = m * size) (hnews : ∀ j u, news[j]? = some u -> w.cell? (ad.add j) = some u) (h1 : ∀ u ∈ news, u.oneCell' = true)
 (h63 : n + m <= maxLen) (hbytes : (n + m) * bytes <= 140737488355328) (hbase : base <= w.heap.size)
 (h : ∀ v' w', w'.ownsRow base e size v' (n + m) (xs ++ news) -> w.grownBy w' v.ownBlock -> (v'.ownBlock = v.ownBlock ∨ v'.ownBlock = some w.heap.size) -> K (a.put o.dst v') w') : o.wp P a w K Q := by
 obtain ⟨v', w', hr, h2, h3, _, h5⟩ := run_append_own_at (P := P) w base t o.type e i z size bytes ht hi hz hsize hby hzs hsz v n xs hown ad m c news hl hnews h1 h63 hbytes hbase
 unfold Oper.wp execOp
 simp only [ho, resolve, invoke, builtin, Sem.run_bind, Sem.run_pure, Result.andThen_ok, List.map_toArray, List.map_cons, List.map_nil, hs, hx, hr]
 exact h v' w' h2 h3 h5
theorem qE1 (b o' j : Nat) : (⟨b, o', none⟩ : Addr).add j = ⟨b, o' + j, none⟩ := by unfold Addr.add; split <;> simp_all
theorem qI7 {W : World} (B : Nat) (s x : Operand) (t e sz : Nat) (z : Value) (bytes : Nat)
 (ho : o.op = .call { callee := .builtin .append, args := #[s, x], argTypes := #[t, t] })
 (ht : P.underlying t = some (.slice e)) (hinfo : (P.info? e).map (fun i => (i.zero, i.size, i.bytes)) = some (some z, sz, bytes)) (hz : z.cells.size = sz) (hsz : 0 < sz)
 (v : Value) (rows : List (List Value)) (r : List Value) (hs : a.eval s = v) (hx : a.eval x = .slice (some ⟨W.heap.size, 0, none⟩) 1 1) (hr : r.length = sz) (hr1 : ∀ u ∈ r, u.oneCell' = true)
 (HO : Row W B e sz v rows) (hB : B <= W.heap.size) (hl : (rows.length + 1) * bytes <= 140737488355328) (hl2 : rows.length + 1 <= 140737488355328)
 (h : ∀ v1 w1, Row w1 B e sz v1 (rows ++ [r]) -> Fr (fun k => some k = v.ownBlock) W w1 -> (v1.ownBlock = v.ownBlock ∨ ∃ b, v1.ownBlock = some b /\ W.heap.size <= b) -> K (a.put o.dst v1) w1) :
 o.wp P a (W.alloc (.cells r.toArray e)) K Q := by
 obtain ⟨i0, hi, hzz⟩ := Option.map_eq_some_iff.1 hinfo
 simp only [Prod.mk.injEq] at hzz
 obtain ⟨hz0, hz1, hz2⟩ := hzz
 refine qDo (W.alloc (.cells r.toArray e)) s x t ho B e i0 z sz bytes ht hi hz0 hz1 hz2 hz hsz v rows.length rows.flatten hs (HO.alloc _).2 ⟨W.heap.size, 0, none⟩ 1 1 r hx (by omega)
  (World.news_of_block (cs := r.toArray) (t := e) (fr := (0, 0)) (heap_alloc_new W _)) hr1 (by simp only [maxLen]; omega) hl (by simp; omega) ?_
 intro v1 w1 hown hg hat
 refine h v1 w1 ⟨?_, ?_⟩ ?_ ?_
 · intro q hq
   rcases List.mem_append.1 hq with hq | hq
   · exact HO.1 q hq
   rw [List.mem_singleton.1 hq]; exact ⟨hr, hr1⟩
 · simpa using hown
 · exact ((Fr.refl _ W).alloc _).grown hg (fun k hk => .inl hk.symm)
 rcases hat with hat | hat
 · exact .inl hat
 exact .inr ⟨_, hat, by simp⟩
theorem qGg {W : World} (B : Nat) (s x : Operand) (t e sz : Nat) (z : Value) (bytes : Nat)
 (ho : o.op = .call { callee := .builtin .append, args := #[s, x], argTypes := #[t, t] })
 (ht : P.underlying t = some (.slice e)) (hinfo : (P.info? e).map (fun i => (i.zero, i.size, i.bytes)) = some (some z, sz, bytes)) (hz : z.cells.size = sz) (hsz : 0 < sz)
 (v : Value) (rows news : List (List Value)) (b o' c : Nat) (hs : a.eval s = v) (hx : a.eval x = .slice (some ⟨b, o', none⟩) news.length c) (hr : ∀ r ∈ news, r.length = sz /\ ∀ u ∈ r, u.oneCell' = true)
 (hc : ∀ (k j : Nat) r u, news[k]? = some r -> r[j]? = some u -> W.cell? ⟨b, o' + k * sz + j, none⟩ = some u)
 (HO : Row W B e sz v rows) (hB : B <= W.heap.size) (hl : (rows.length + news.length) * bytes <= 140737488355328) (hl2 : rows.length + news.length <= 140737488355328)
 (h : ∀ v1 w1, Row w1 B e sz v1 (rows ++ news) -> Fr (fun k => some k = v.ownBlock) W w1 -> (v1.ownBlock = v.ownBlock ∨ ∃ b, v1.ownBlock = some b /\ W.heap.size <= b) -> K (a.put o.dst v1) w1) :
 o.wp P a W K Q := by
 obtain ⟨i0, hi, hzz⟩ := Option.map_eq_some_iff.1 hinfo
 simp only [Prod.mk.injEq] at hzz
 obtain ⟨hz0, hz1, hz2⟩ := hzz
 have hfl : news.flatten.length = news.length * sz := qEz (fun r hr' => (hr r hr').1)
 refine qDo W s x t ho B e i0 z sz bytes ht hi hz0 hz1 hz2 hz hsz v rows.length rows.flatten hs HO.2 ⟨b, o', none⟩ news.length c news.flatten hx hfl ?_ ?_ (by simp only [maxLen]; omega) hl hB ?_
 · intro j u hj
   have hlt : j < news.length * sz := by have := (List.getElem?_eq_some_iff.1 hj).1; omega
   have hk : j / sz < news.length := (Nat.div_lt_iff_lt_mul hsz).2 hlt
   have hm : j % sz < sz := Nat.mod_lt _ hsz
   have hkr := (hr news[j / sz] (List.getElem_mem hk)).1
   have hu := qE0 (k := j / sz) (j := j % sz) (fun r hr' => (hr r hr').1) (List.getElem?_eq_getElem hk) (List.getElem?_eq_getElem (by omega))
   rw [show j / sz * sz + j % sz = j by rw [Nat.mul_comm]; exact Nat.div_add_mod j sz] at hu
   rw [hj] at hu
   have h3 := hc (j / sz) (j % sz) _ _ (List.getElem?_eq_getElem hk) (List.getElem?_eq_getElem (by omega))
   rw [qE1]
   rw [show o' + j = o' + j / sz * sz + j % sz by rw [Nat.add_assoc, Nat.mul_comm, Nat.div_add_mod]]
   rw [h3]
   exact hu.symm
 · intro u hu
   obtain ⟨r, hr1, hr2⟩ := List.mem_flatten.1 hu
   exact (hr r hr1).2 u hr2
 intro v1 w1 hown hg hat
 refine h v1 w1 ⟨?_, ?_⟩ ?_ ?_
 · intro q hq
   rcases List.mem_append.1 hq with hq | hq
   · exact HO.1 q hq
   exact hr q hq
 · simpa using hown
 · exact (Fr.refl _ W).grown hg (fun k hk => .inl hk.symm)
 rcases hat with hat | hat
 · exact .inl hat
 exact .inr ⟨_, hat, by simp⟩
theorem qCh {α : Type} {T : Ty α} {W : World} (B : Nat) (s x : Operand) (t e : Nat) (z : Value) (bytes : Nat)
 (ho : o.op = .call { callee := .builtin .append, args := #[s, x], argTypes := #[t, t] })
 (ht : P.underlying t = some (.slice e)) (hinfo : (P.info? e).map (fun i => (i.zero, i.size, i.bytes)) = some (some z, T.sz, bytes)) (hz : z.cells.size = T.sz) (hsz : 0 < T.sz)
 (v u : Value) (rows : List (List Value)) (ys : List α) (hs : a.eval s = v) (hx : a.eval x = u) (hu : T.Sl W ys u)
 (HO : Row W B e T.sz v rows) (hB : B <= W.heap.size) (hl : (rows.length + ys.length) * bytes <= 140737488355328) (hl2 : rows.length + ys.length <= 140737488355328)
 (h : ∀ v1 w1 news, news.length = ys.length -> (∀ (k : Nat) y r, ys[k]? = some y -> news[k]? = some r -> T.rel W y r) -> Row w1 B e T.sz v1 (rows ++ news) -> Fr (fun k => some k = v.ownBlock) W w1 -> (v1.ownBlock = v.ownBlock ∨ ∃ b, v1.ownBlock = some b /\ W.heap.size <= b) -> K (a.put o.dst v1) w1) :
 o.wp P a W K Q := by
 rcases hu.2 with ⟨rfl, A, c, rfl, hA⟩ | ⟨hp, b, o', c, rfl, hc, ha⟩
 · have hfin : ∀ v1 w1, Row w1 B e T.sz v1 rows -> Fr (fun k => some k = v.ownBlock) W w1 -> (v1.ownBlock = v.ownBlock ∨ ∃ b, v1.ownBlock = some b /\ W.heap.size <= b) -> K (a.put o.dst v1) w1 := fun v1 w1 h1 h2 h3 =>
    h v1 w1 [] rfl (fun k y r hy => by simp at hy) (by simpa using h1) h2 h3
   cases A with
   | none =>
    obtain rfl := hA rfl
    obtain ⟨i0, hi, hzz⟩ := Option.map_eq_some_iff.1 hinfo
    have hrun := run_append_owned_none (P := P) (w := W) B t o.type e i0 T.sz ht hi v rows.length rows.flatten HO.2
    unfold Oper.wp
    simp [execOp, ho, resolve, invoke, builtin, hs, hx, hrun, Result.andThen]
    exact hfin v W HO (Fr.refl _ _) (.inl rfl)
   | some ad =>
    obtain ⟨i0, hi, hzz⟩ := Option.map_eq_some_iff.1 hinfo
    simp only [Prod.mk.injEq] at hzz
    obtain ⟨hz0, hz1, hz2⟩ := hzz
    refine qDo W s x t ho B e i0 z T.sz bytes ht hi hz0 hz1 hz2 hz hsz v rows.length rows.flatten hs HO.2 ad 0 c [] hx (by simp) (by simp) (by simp) (by simp only [maxLen]; omega) (by simpa using hl) hB ?_
    intro v1 w1 hown hg hat
    refine hfin v1 w1 ⟨HO.1, by simpa using hown⟩ ((Fr.refl _ W).grown hg (fun k hk => .inl hk.symm)) ?_
    rcases hat with hat | hat
    · exact .inl hat
    exact .inr ⟨_, hat, Nat.le_refl _⟩
 have hex : ∀ (n : Nat), n <= ys.length -> ∃ news : List (List Value), news.length = n /\ ∀ (k : Nat) y r, ys[k]? = some y -> news[k]? = some r -> T.rel W y r /\ ∀ j u, r[j]? = some u -> W.cell? ⟨b, o' + k * T.sz + j, none⟩ = some u := by
  intro n
  induction n with
  | zero => exact fun _ => ⟨[], rfl, fun k y r _ hr => by simp at hr⟩
  | succ n ih =>
   intro hn
   obtain ⟨news, hl, hr⟩ := ih (by omega)
   obtain ⟨cs, h1, h2⟩ := ha n _ (List.getElem?_eq_getElem (show n < ys.length by omega))
   refine ⟨news ++ [cs], by simp [hl], fun k y r hy hk => ?_⟩
   rcases Nat.lt_or_ge k n with hlt | hge
   · rw [List.getElem?_append_left (by omega)] at hk
     exact hr k y r hy hk
   have hkn : k = n := by
    have := (List.getElem?_eq_some_iff.1 hk).1
    simp at this; omega
   subst hkn
   rw [List.getElem?_append_right (by omega)] at hk
   simp only [hl, Nat.sub_self, List.getElem?_cons_zero, Option.some.injEq] at hk
   rw [List.getElem?_eq_getElem (show k < ys.length by omega)] at hy
   injection hy with hy
   rw [<- hk, <- hy]
   exact ⟨h1, h2⟩
 obtain ⟨news, hnl, hnr⟩ := hex ys.length (Nat.le_refl _)
 refine qGg B s x t e T.sz z bytes ho ht hinfo hz hsz v rows news b o' c hs (by rw [hx, hnl]) (fun r hr => ?_) (fun k j r u hk hj => ?_) HO hB (by rw [hnl]; exact hl) (by rw [hnl]; exact hl2) (fun v1 w1 h1 h2 h3 => h v1 w1 news hnl (fun k y r hy hk => (hnr k y r hy hk).1) h1 h2 h3)
 · obtain ⟨k, hk, rfl⟩ := List.getElem_of_mem hr
   have := (hnr k _ _ (List.getElem?_eq_getElem (show k < ys.length by omega)) (List.getElem?_eq_getElem hk)).1
   exact ⟨T.len this, T.one this⟩
 have hk' := (List.getElem?_eq_some_iff.1 hk).1
 exact (hnr k _ r (List.getElem?_eq_getElem (show k < ys.length by omega)) hk).2 j u hj
end
end Go.Proofs.YtcepdjlknalmnaaGreatDoor
/- The data of the statements: a session's parts as plain structures, and how their cells read. -/
namespace Go.Proofs.YtcepdjlknalmnaaGreatDoor
open List (mem_cons not_mem_nil)
open Go.RowKit
structure Adr where
 addr : ByteArray
 ttl : List Int
 rng : List Int
structure Con where
 net : ByteArray
 addr : ByteArray
 adrs : List Adr
structure Bwd where
 x : Bool
 ty : ByteArray
 n : Int
structure Rep where
 ivl : Int
 dur : Int
 offs : List Int
structure Tim where
 start : Int
 stop : Int
 reps : List Rep
structure Zon where
 time : Int
 off : Int
structure Att where
 key : ByteArray
 val : ByteArray
structure Med where
 name : ByteArray
 port : Int
 ports : List Int
 protos : List ByteArray
 fmts : List ByteArray
 title : List ByteArray
 conn : List Con
 bws : List Bwd
 key : List ByteArray
 atts : List Att
structure Org where
 user : ByteArray
 id : Int
 ver : Int
 net : ByteArray
 addr : ByteArray
 adr : ByteArray
structure Ssn where
 ver : Int
 org : Org
 name : ByteArray
 info : List ByteArray
 uri : List ByteArray
 email : List ByteArray
 phone : List ByteArray
 conn : List Con
 bws : List Bwd
 times : List Tim
 zones : List Zon
 key : List ByteArray
 atts : List Att
 media : List Med
theorem qBg {α : Type} {T : Ty α} {w : World} {xs : List α} {v : Value} (h : T.Sl w xs v) : v.oneCell' = true := by
 obtain ⟨A, c, rfl⟩ := Ty.Sl_form h
 rfl
def tyI : Ty Int := qCn .i64
def qE2 : Ty Adr where
 sz := 3
 rel := fun w x cs => ∃ v1 v2, cs = [.string x.addr, v1, v2] /\ qAb x.addr /\ tyI.Sl w x.ttl v1 /\ tyI.Sl w x.rng v2
 len := by rintro w x cs ⟨v1, v2, rfl, _⟩; rfl
 one := by
  rintro w x cs ⟨v1, v2, rfl, _, h1, h2⟩ u hu
  simp only [mem_cons, not_mem_nil, or_false] at hu
  rcases hu with rfl | rfl | rfl
  all_goals first | exact rfl | exact qBg h1 | exact qBg h2
 loc := by
  rintro w w' x cs h ⟨v1, v2, rfl, h0, h1, h2⟩
  exact ⟨v1, v2, rfl, h0, Ty.Sl_loc h h1, Ty.Sl_loc h h2⟩
def qC0 : Ty Con where
 sz := 3
 rel := fun w x cs => ∃ v1, cs = [.string x.net, .string x.addr, v1] /\ qAb x.net /\ qAb x.addr /\ qE2.Sl w x.adrs v1
 len := by rintro w x cs ⟨v1, rfl, _⟩; rfl
 one := by
  rintro w x cs ⟨v1, rfl, _, _, h1⟩ u hu
  simp only [mem_cons, not_mem_nil, or_false] at hu
  rcases hu with rfl | rfl | rfl
  all_goals first | exact rfl | exact qBg h1
 loc := by
  rintro w w' x cs h ⟨v1, rfl, h0, h0', h1⟩
  exact ⟨v1, rfl, h0, h0', Ty.Sl_loc h h1⟩
def qBx : Ty Bwd := Ty.flat 3 (fun x => [.bool x.x, .string x.ty, .int .u64 x.n]) (fun x => qAb x.ty /\ qAg .u64 x.n) (fun _ => rfl) (fun _ u hu => by
 simp only [mem_cons, not_mem_nil, or_false] at hu
 rcases hu with rfl | rfl | rfl <;> rfl)
def qDt : Ty Zon := Ty.flat 2 (fun x => [.int .u64 x.time, .int .i64 x.off]) (fun x => qAg .u64 x.time /\ qAg .i64 x.off) (fun _ => rfl) (fun _ u hu => by
 simp only [mem_cons, not_mem_nil, or_false] at hu
 rcases hu with rfl | rfl <;> rfl)
def qBy : Ty Att := Ty.flat 2 (fun x => [.string x.key, .string x.val]) (fun x => qAb x.key /\ qAb x.val) (fun _ => rfl) (fun _ u hu => by
 simp only [mem_cons, not_mem_nil, or_false] at hu
 rcases hu with rfl | rfl <;> rfl)
def qDc : Ty Rep where
 sz := 3
 rel := fun w x cs => ∃ v1, cs = [.int .i64 x.ivl, .int .i64 x.dur, v1] /\ qAg .i64 x.ivl /\ qAg .i64 x.dur /\ tyI.Sl w x.offs v1
 len := by rintro w x cs ⟨v1, rfl, _⟩; rfl
 one := by
  rintro w x cs ⟨v1, rfl, _, _, h1⟩ u hu
  simp only [mem_cons, not_mem_nil, or_false] at hu
  rcases hu with rfl | rfl | rfl
  all_goals first | exact rfl | exact qBg h1
 loc := by
  rintro w w' x cs h ⟨v1, rfl, h0, h0', h1⟩
  exact ⟨v1, rfl, h0, h0', Ty.Sl_loc h h1⟩
def qCc : Ty Tim where
 sz := 3
 rel := fun w x cs => ∃ v1, cs = [.int .u64 x.start, .int .u64 x.stop, v1] /\ qAg .u64 x.start /\ qAg .u64 x.stop /\ qDc.Sl w x.reps v1
 len := by rintro w x cs ⟨v1, rfl, _⟩; rfl
 one := by
  rintro w x cs ⟨v1, rfl, _, _, h1⟩ u hu
  simp only [mem_cons, not_mem_nil, or_false] at hu
  rcases hu with rfl | rfl | rfl
  all_goals first | exact rfl | exact qBg h1
 loc := by
  rintro w w' x cs h ⟨v1, rfl, h0, h0', h1⟩
  exact ⟨v1, rfl, h0, h0', Ty.Sl_loc h h1⟩
structure MedAt (w : World) (x : Med) (v0 v1 v2 v3 v4 v5 v6 v7 : Value) : Prop where
 name : qAb x.name
 port : qAg .i64 x.port
 ports : tyI.Sl w x.ports v0
 protos : qAd.Sl w x.protos v1
 fmts : qAd.Sl w x.fmts v2
 title : qAd.Sl w x.title v3
 conn : qC0.Sl w x.conn v4
 bws : qBx.Sl w x.bws v5
 key : qAd.Sl w x.key v6
 atts : qBy.Sl w x.atts v7
theorem MedAt.loc {w w' : World} (h : ∀ k, k < w.heap.size -> w'.heap[k]? = w.heap[k]?) {x : Med} {v0 v1 v2 v3 v4 v5 v6 v7 : Value} (m : MedAt w x v0 v1 v2 v3 v4 v5 v6 v7) : MedAt w' x v0 v1 v2 v3 v4 v5 v6 v7 :=
 ⟨m.name, m.port, Ty.Sl_loc h m.ports, Ty.Sl_loc h m.protos, Ty.Sl_loc h m.fmts, Ty.Sl_loc h m.title, Ty.Sl_loc h m.conn, Ty.Sl_loc h m.bws, Ty.Sl_loc h m.key, Ty.Sl_loc h m.atts⟩
def qEj : Ty Med where
 sz := 10
 rel := fun w x cs => ∃ v0 v1 v2 v3 v4 v5 v6 v7, cs = [.string x.name, .int .i64 x.port, v0, v1, v2, v3, v4, v5, v6, v7] /\ MedAt w x v0 v1 v2 v3 v4 v5 v6 v7
 len := by rintro w x cs ⟨v0, v1, v2, v3, v4, v5, v6, v7, rfl, _⟩; rfl
 one := by
  rintro w x cs ⟨v0, v1, v2, v3, v4, v5, v6, v7, rfl, m⟩ u hu
  simp only [mem_cons, not_mem_nil, or_false] at hu
  rcases hu with rfl | rfl | rfl | rfl | rfl | rfl | rfl | rfl | rfl | rfl
  all_goals first | exact rfl | exact qBg m.ports | exact qBg m.protos | exact qBg m.fmts | exact qBg m.title | exact qBg m.conn | exact qBg m.bws | exact qBg m.key | exact qBg m.atts
 loc := by
  rintro w w' x cs h ⟨v0, v1, v2, v3, v4, v5, v6, v7, rfl, m⟩
  exact ⟨v0, v1, v2, v3, v4, v5, v6, v7, rfl, m.loc h⟩
structure SsnAt (w : World) (x : Ssn) (v0 v1 v2 v3 v4 v5 v6 v7 v8 v9 v10 : Value) : Prop where
 ver : qAg .i64 x.ver
 user : qAb x.org.user
 oid : qAg .u64 x.org.id
 over : qAg .u64 x.org.ver
 onet : qAb x.org.net
 oaddr : qAb x.org.addr
 oadr : qAb x.org.adr
 name : qAb x.name
 info : qAd.Sl w x.info v0
 uri : qAd.Sl w x.uri v1
 email : qAd.Sl w x.email v2
 phone : qAd.Sl w x.phone v3
 conn : qC0.Sl w x.conn v4
 bws : qBx.Sl w x.bws v5
 times : qCc.Sl w x.times v6
 zones : qDt.Sl w x.zones v7
 key : qAd.Sl w x.key v8
 atts : qBy.Sl w x.atts v9
 media : qEj.Sl w x.media v10
theorem SsnAt.loc {w w' : World} (h : ∀ k, k < w.heap.size -> w'.heap[k]? = w.heap[k]?) {x : Ssn} {v0 v1 v2 v3 v4 v5 v6 v7 v8 v9 v10 : Value} (m : SsnAt w x v0 v1 v2 v3 v4 v5 v6 v7 v8 v9 v10) : SsnAt w' x v0 v1 v2 v3 v4 v5 v6 v7 v8 v9 v10 :=
 ⟨m.ver, m.user, m.oid, m.over, m.onet, m.oaddr, m.oadr, m.name, Ty.Sl_loc h m.info, Ty.Sl_loc h m.uri, Ty.Sl_loc h m.email, Ty.Sl_loc h m.phone, Ty.Sl_loc h m.conn, Ty.Sl_loc h m.bws, Ty.Sl_loc h m.times, Ty.Sl_loc h m.zones, Ty.Sl_loc h m.key, Ty.Sl_loc h m.atts, Ty.Sl_loc h m.media⟩
def qBv (x : Ssn) (v0 v1 v2 v3 v4 v5 v6 v7 v8 v9 v10 : Value) : Value :=
 .agg #[.int .i64 x.ver, .string x.org.user, .int .u64 x.org.id, .int .u64 x.org.ver, .string x.org.net, .string x.org.addr, .string x.org.adr, .string x.name, v0, v1, v2, v3, v4, v5, v6, v7, v8, v9, v10]
def qIx (w : World) (x : Ssn) (u : Value) : Prop := ∃ v0 v1 v2 v3 v4 v5 v6 v7 v8 v9 v10, u = qBv x v0 v1 v2 v3 v4 v5 v6 v7 v8 v9 v10 /\ SsnAt w x v0 v1 v2 v3 v4 v5 v6 v7 v8 v9 v10
theorem qIx.loc {w w' : World} (h : ∀ k, k < w.heap.size -> w'.heap[k]? = w.heap[k]?) {x : Ssn} {u : Value} (r : qIx w x u) : qIx w' x u := by
 obtain ⟨v0, v1, v2, v3, v4, v5, v6, v7, v8, v9, v10, rfl, m⟩ := r
 exact ⟨v0, v1, v2, v3, v4, v5, v6, v7, v8, v9, v10, rfl, m.loc h⟩
end Go.Proofs.YtcepdjlknalmnaaGreatDoor

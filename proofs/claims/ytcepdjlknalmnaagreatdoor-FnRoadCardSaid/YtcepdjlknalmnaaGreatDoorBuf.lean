/- Laws of this claim. -/
import Derived.Test.YtcepdjlknalmnaaGreatDoorLexB
import Derived.Lib.AppendStr
import Derived.Lib.AppendIntMem
import Derived.Lib.OthersKept
set_option linter.unusedSimpArgs false
set_option linter.unusedVariables false
namespace Go.Proofs.YtcepdjlknalmnaaGreatDoor
open Tryz
open Lib (hid byteCells)
open Go.RowKit
def Buf (w : World) (B : Nat) (v : Value) (l : List UInt8) : Prop := w.ownsRow B 5 1 v l.length (byteCells l)
def Mk (B : Nat) (b : Option Nat) (w w' : World) : Prop := Below B w w' /\ Lib.OthersKept 5 b w w'
namespace Mk
variable {B : Nat} {b : Option Nat} {a w w' : World}
theorem refl (B : Nat) (b : Option Nat) (w : World) : Mk B b w w := ⟨Below.refl _ _, Lib.OthersKept.refl _ _ _⟩
theorem trans (h : Mk B b a w) (k : Mk B b w w') : Mk B b a w' := ⟨h.1.trans k.1, h.2.trans k.2⟩
theorem size (h : Mk B b a w) : a.heap.size <= w.heap.size := Below.size h.1
theorem le (h : Mk B b a w) (hB : B <= a.heap.size) : B <= w.heap.size := Nat.le_trans hB h.size
theorem drew (h : Mk B b a w) : Mk B b a w.drew := ⟨⟨h.1.os, h.1.tape, h.1.output, h.1.size, h.1.block⟩, h.2.drew⟩
theorem alloc (h : Mk B b a w) (hB : B <= a.heap.size) (o : Obj) : Mk B b a (w.alloc o) := ⟨Below.alloc h.1 (h.le hB) o, h.2.alloc o⟩
theorem weak (h : Mk B none a w) : Mk B b a w := ⟨h.1, fun k o hk _ ho => h.2 k o hk (by simp) ho⟩
theorem ofNw (h : Nw a w) (hB : B <= a.heap.size) : Mk B b a w := ⟨Below.mono h hB, fun k o hk _ _ => (h.block k (Array.getElem?_eq_some_iff.1 hk).1).trans hk⟩
theorem nw {w0 : World} (h : Mk B b w w') (hq : Nw w0 w) (hB : w0.heap.size <= B) : Nw w0 w' := Below.trans hq (Below.mono h.1 hB)
theorem blk {g : Nat} {l : List Value} {t : TypeId} (h : Mk B b w w') (hb : Blk w g l t) (ht : ¬ t = 5) (hg : ¬ some g = b) : Blk w' g l t := h.2 g _ hb hg (fun c fz e => ht (by cases e; rfl))
theorem setCell {g j : Nat} (h : Mk B (some g) a w) (hg : B <= g) (u : Value) : Mk B (some g) a (w.setCell ⟨g, j, none⟩ u) :=
 ⟨Below.setCell h.1 hg u, fun k o hk hb ho => (Below.heap_setCell w ⟨g, j, none⟩ u k (fun e => hb (by rw [e]))).trans (h.2 k o hk hb ho)⟩
end Mk
namespace Buf
variable {w w' : World} {B : Nat} {v : Value} {l : List UInt8}
theorem form (h : Buf w B v l) : ∃ A c, v = .slice A l.length c := by
 rcases h.2 with ⟨rfl, h0⟩ | ⟨g, cap, cur, rfl, _⟩
 · exact ⟨none, 0, by rw [h0]⟩
 exact ⟨_, cap, rfl⟩
theorem own (h : Buf w B v l) {k : Nat} (hk : v.ownBlock = some k) : B <= k /\ ∃ cur, w.heap[k]? = some (.cells cur 5 (0, 0)) := by
 rcases h.2 with ⟨rfl, h0⟩ | ⟨g, cap, cur, rfl, hb, hg, _⟩
 · simp [Value.ownBlock] at hk
 simp only [Value.ownBlock, Option.some.injEq] at hk
 subst hk
 exact ⟨hb, cur, hg⟩
theorem move (h : Buf w B v l) (hm : ∀ k, v.ownBlock = some k -> w'.heap[k]? = w.heap[k]?) : Buf w' B v l := by
 refine ⟨h.1, ?_⟩
 rcases h.2 with h2 | ⟨g, cap, cur, rfl, hg, hh, r⟩
 · exact .inl h2
 exact .inr ⟨g, cap, cur, rfl, hg, (hm g rfl).trans hh, r⟩
theorem lt (h : Buf w B v l) {k : Nat} (hk : v.ownBlock = some k) : k < w.heap.size := by
 obtain ⟨_, cur, hc⟩ := h.own hk
 exact (Array.getElem?_eq_some_iff.1 hc).1
theorem nw (h : Buf w B v l) (hf : Nw w w') : Buf w' B v l := h.move (fun k hk => hf.block k (h.lt hk))
theorem alloc (h : Buf w B v l) (o : Obj) : Buf (w.alloc o) B v l := h.nw ((Nw.refl w).alloc o)
theorem drew (h : Buf w B v l) : Buf w.drew B v l := h
theorem ne (h : Buf w B v l) {g : Nat} {l' : List Value} {t : TypeId} (hb : Blk w g l' t) (ht : ¬ t = 5) : ∀ k, v.ownBlock = some k -> ¬ k = g := fun k hk e => by
 obtain ⟨_, cur, hc⟩ := h.own hk
 subst e
 unfold Blk at hb
 rw [hb] at hc
 cases hc
 exact ht rfl
theorem set (h : Buf w B v l) {g j : Nat} {l' : List Value} {t : TypeId} (hb : Blk w g l' t) (ht : ¬ t = 5) (u : Value) : Buf (w.setCell ⟨g, j, none⟩ u) B v l :=
 h.move (fun k hk => Below.heap_setCell w ⟨g, j, none⟩ u k (h.ne hb ht k hk))
theorem mk (h : Buf w B v l) (hB : B <= w.heap.size) (hg : w.grownBy w' v.ownBlock) : Mk B none w w' := by
 refine ⟨Below.grown (Below.refl B w) hg hB (fun k hk => (h.own hk).1), fun k o hk _ ho => ?_⟩
 refine (hg.block k (Array.getElem?_eq_some_iff.1 hk).1 (fun e => ?_)).trans hk
 obtain ⟨_, cur, hc⟩ := h.own e.symm
 rw [hk] at hc
 cases hc
 exact ho _ _ rfl
end Buf
theorem qFv (l l' : List UInt8) : byteCells (l ++ l') = byteCells l ++ byteCells l' := List.map_append ..
section
variable {P : Program} {o : Oper} {a : Act} {Q : Exit -> Act -> World -> Prop} {K : Act -> World -> Prop} {W : World}
theorem qA9 (B : Nat) (s x : Operand) (t u : TypeId) (ho : o.op = .call { callee := .builtin .append, args := #[s, x], argTypes := #[t, u] })
 (ht : P.underlying t = some (.slice 5)) (hu : P.underlying u = some .string) (hinfo : (P.info? 5).map (fun i => (i.zero, i.size, i.bytes)) = some (some (.int .u8 0), 1, 1))
 (v : Value) (l : List UInt8) (tx : ByteArray) (hs : a.eval s = v) (hx : a.eval x = .string tx) (hb : Buf W B v l) (hB : B <= W.heap.size) (hl : l.length + tx.size <= 140737488355328)
 (h : ∀ v' w', Buf w' B v' (l ++ bs tx) -> Mk B none W w' -> K (a.put o.dst v') w') : o.wp P a W K Q := by
 obtain ⟨i0, hi, hzz⟩ := Option.map_eq_some_iff.1 hinfo
 simp only [Prod.mk.injEq] at hzz
 obtain ⟨hz0, hz1, hz2⟩ := hzz
 obtain ⟨v', w', hr, h2, h3, _⟩ := Lib.run_append_own_string (P := P) W B t u o.type 5 i0 ht hu hi hz0 hz1 hz2 v l.length (byteCells l) hb tx (by simp only [maxLen]; omega) hl hB
 unfold Oper.wp execOp
 simp only [ho, resolve, invoke, builtin, Sem.run_bind, Sem.run_pure, Result.andThen_ok, List.map_toArray, List.map_cons, List.map_nil, hs, hx, hr]
 refine h v' w' ?_ (hb.mk hB h3)
 unfold Buf
 rw [qFv, List.length_append]
 exact h2
theorem qBe (B : Nat) (s x : Operand) (t : TypeId) (ho : o.op = .call { callee := .builtin .append, args := #[s, x], argTypes := #[t, t] })
 (ht : P.underlying t = some (.slice 5)) (hinfo : (P.info? 5).map (fun i => (i.zero, i.size, i.bytes)) = some (some (.int .u8 0), 1, 1))
 (v : Value) (l : List UInt8) (c : UInt8) (n : Int) (hn : n = (c.toNat : Int)) (hs : a.eval s = v) (hx : a.eval x = .slice (some ⟨W.heap.size, 0, none⟩) 1 1) (hb : Buf W B v l) (hB : B <= W.heap.size) (hl : l.length + 1 <= 140737488355328)
 (h : ∀ v' w', Buf w' B v' (l ++ [c]) -> Mk B none W w' -> K (a.put o.dst v') w') : o.wp P a (W.alloc (.cells #[.int .u8 n] 5)) K Q := by
 subst hn
 obtain ⟨i0, hi, hzz⟩ := Option.map_eq_some_iff.1 hinfo
 simp only [Prod.mk.injEq] at hzz
 obtain ⟨hz0, hz1, hz2⟩ := hzz
 have hb1 := hb.alloc (.cells #[.int .u8 (c.toNat : Int)] 5)
 refine qDo (W.alloc (.cells #[.int .u8 (c.toNat : Int)] 5)) s x t ho B 5 i0 (.int .u8 0) 1 1 ht hi hz0 hz1 hz2 rfl (by decide) v l.length (byteCells l) hs hb1 ⟨W.heap.size, 0, none⟩ 1 1 [.int .u8 (c.toNat : Int)] hx rfl
  (World.news_of_block (cs := #[.int .u8 (c.toNat : Int)]) (t := 5) (fr := (0, 0)) (heap_alloc_new W _)) (fun u hu => by rw [List.mem_singleton.1 hu]; rfl) (by simp only [maxLen]; omega) (by omega) (by simp; omega) ?_
 intro v1 w1 hown hg hat
 refine h v1 w1 ?_ (((Mk.refl B none W).alloc hB _).trans (hb1.mk (by simp; omega) hg))
 unfold Buf
 rw [qFv, List.length_append]
 exact hown
end
end Go.Proofs.YtcepdjlknalmnaaGreatDoor

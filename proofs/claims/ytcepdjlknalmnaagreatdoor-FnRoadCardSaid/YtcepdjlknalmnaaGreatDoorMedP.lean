/- Laws of this claim. -/
import Derived.Test.YtcepdjlknalmnaaGreatDoorSegs
import Derived.Test.YtcepdjlknalmnaaGreatDoorMedB
set_option linter.unusedSimpArgs false
set_option linter.unusedVariables false
namespace Go.Proofs.YtcepdjlknalmnaaGreatDoor
open Tryz
open List (length_cons mem_cons_self mem_cons_of_mem all_eq_true)
open Lib (decDigits hid)
open Go.RowKit
def qDs (x : ByteArray) : Prop := x.size <= 2147483647
theorem bw_wf {b : Bwd} (h : bwB b = true) (h1 : qDs b.ty) (h2 : 0 <= b.n) : (qAb b.ty /\ qAg .u64 b.n) /\ (qF8 b).length <= 1000000000000 := by
 have hn : b.n < 1125899906842624 := by
  unfold bwB at h
  simp only [Bool.and_eq_true, decide_eq_true_eq] at h
  exact h.2
 unfold qDs at h1
 refine ⟨⟨by show b.ty.size <= 1152921504606846976; omega, h2, by show b.n <= 18446744073709551615; omega⟩, ?_⟩
 have hd : ((decDigits (Int.toNat b.n))).length <= 20 := by
  have := qDf (u := b.n.toNat) (by omega)
  rwa [qAy] at this
 have ht : (bs b.ty).length = b.ty.size := qA4 _
 unfold qF8
 simp only [List.length_append, length_cons]
 split <;> simp only [length_cons, List.length_nil] <;> omega
theorem qQg {xs : List ByteArray} (h0 : 0 < xs.length) (h : ∀ x ∈ xs, qDb x qBw = true) : (∀ c ∈ qAk [47] xs, 33 <= c.toNat) /\ qAk [47] xs ≠ [] := by
 match xs, h0 with
 | x :: xs, _ =>
  have hx : ∀ y ∈ x :: xs, (∀ c ∈ bs y, 33 <= c.toNat) /\ bs y ≠ [] := fun y hy => qQd (h y hy) (by decide)
  refine ⟨fun c hc => ?_, fun e0 => (hx x mem_cons_self).2 (List.append_eq_nil_iff.1 e0).1⟩
  rcases List.mem_append.1 hc with hc | hc
  · exact (hx x mem_cons_self).1 c hc
  obtain ⟨y, hy, hc⟩ := List.mem_flatMap.1 hc
  rcases List.mem_append.1 hc with hc | hc
  · rw [List.mem_singleton.1 hc]; decide
  exact (hx y (mem_cons_of_mem _ hy)).1 c hc
def qJ0 : Ln -> Prop
 | .lv => True
 | .lo o => qGh o.user = true /\ (0 <= o.id /\ o.id < 18446744073709551616) /\ (0 <= o.ver /\ o.ver < 18446744073709551616) /\ qDb o.net inT = true /\ qDb o.addr qA1 = true /\ qGh o.adr = true
 | .ls x => line x = true
 | .li x => line x = true
 | .lu x => line x = true
 | .le x => line x = true
 | .lp x => line x = true
 | .lc c => qDh c = true
 | .lb b => bwB b = true /\ qDs b.ty /\ 0 <= b.n
 | .lt t => (0 <= t.start /\ t.start < 18446744073709551616) /\ (0 <= t.stop /\ t.stop < 18446744073709551616)
 | .lr r => qJq r = true
 | .lz zs => zs ≠ [] /\ zs.length <= 5 /\ ∀ z ∈ zs, zonB z = true /\ 0 <= z.time
 | .lk x => line x = true
 | .la a => qMg a = true
 | .lm m => qIw m = true /\ qDs m.name /\ (∀ x ∈ m.fmts, qDs x)
 | .mi x => line x = true
 | .mc c => qDh c = true
 | .mb b => bwB b = true /\ qDs b.ty /\ 0 <= b.n
 | .mkey x => line x = true
 | .ma a => qMg a = true
structure Inv (n : Nat) (q : Pst) : Prop where
 t9 : n = 9 -> ∃ t, q.tc = some t
 m12 : n ∈ [12, 14, 15, 16] -> ∃ y, q.mc = some y
 m0 : q.mc = none -> q.ma = []
theorem Inv.zero : Inv 1 Pst.zero := ⟨(fun e => by cases e), fun e => by simp at e, fun _ => rfl⟩
theorem Inv.step {n : Nat} {q : Pst} {l : Ln} (h : Inv n q) (hn : n ∈ l.from_) : Inv l.dst (q.app l) := by
 cases l
 case lm m =>
  refine ⟨(fun e => by cases e), fun _ => ?_, ?_⟩
  · cases hc : q.mc <;> exact ⟨qNp m, by simp [Pst.app, hc]⟩
  cases hc : q.mc <;> simp [Pst.app, hc]
 case mi x => obtain ⟨y, hy⟩ := h.m12 hn; exact ⟨(fun e => by cases e), fun _ => ⟨{ y with title := [x] }, by simp [Pst.app, hy]⟩, fun e => by simp [Pst.app, hy] at e⟩
 case mc x => obtain ⟨y, hy⟩ := h.m12 hn; exact ⟨(fun e => by cases e), fun _ => ⟨{ y with conn := [qBf x] }, by simp [Pst.app, hy]⟩, fun e => by simp [Pst.app, hy] at e⟩
 case mb x => obtain ⟨y, hy⟩ := h.m12 hn; exact ⟨(fun e => by cases e), fun _ => ⟨{ y with bws := y.bws ++ [x] }, by simp [Pst.app, hy]⟩, fun e => by simp [Pst.app, hy] at e⟩
 case mkey x => obtain ⟨y, hy⟩ := h.m12 hn; exact ⟨(fun e => by cases e), fun _ => ⟨{ y with key := [x] }, by simp [Pst.app, hy]⟩, fun e => by simp [Pst.app, hy] at e⟩
 case ma x => obtain ⟨y, hy⟩ := h.m12 hn; exact ⟨(fun e => by cases e), fun _ => ⟨y, by simp [Pst.app, hy]⟩, fun e => by simp [Pst.app, hy] at e⟩
 case lt t => exact ⟨fun _ => ⟨_, rfl⟩, fun e => by simp [Ln.dst] at e, h.m0⟩
 case lr r =>
  obtain ⟨t, ht⟩ := h.t9 (by simpa [Ln.from_] using hn)
  exact ⟨fun _ => ⟨⟨t.start, t.stop, t.reps ++ [r]⟩, by simp [Pst.app, ht]⟩, fun e => by simp [Ln.dst] at e, h.m0⟩
 all_goals exact ⟨fun e => by simp [Ln.dst] at e, fun e => by simp [Ln.dst] at e, h.m0⟩
def wt : Ln -> Nat
 | .lz zs => zs.length + 1
 | _ => 1
def wts (ls : List Ln) : Nat := (ls.map wt).sum
theorem qBo (a b : List Ln) : wts (a ++ b) = wts a + wts b := by simp [wts]
theorem qEe (l : Ln) (a : List Ln) : wts (l :: a) = wt l + wts a := by simp [wts]
theorem qC9 {α : Type} {f : α -> Ln} (hf : ∀ x, wt (f x) = 1) (xs : List α) : wts (xs.map f) = xs.length := by
 induction xs with
 | nil => rfl
 | cons x xs ih => rw [List.map_cons, qEe, ih, hf, length_cons]; omega
theorem qMs {α : Type} {f : α -> List Ln} {n : Nat} (xs : List α) (hf : ∀ x ∈ xs, wts (f x) <= n) : wts (xs.flatMap f) <= xs.length * n := by
 induction xs with
 | nil => simp [wts]
 | cons x xs ih =>
  rw [List.flatMap_cons, qBo, length_cons, Nat.succ_mul]
  have := hf x mem_cons_self
  have := ih (fun y hy => hf y (mem_cons_of_mem _ hy))
  omega
theorem Small.zero : Small 0 Pst.zero := ⟨Nat.le_refl _, Nat.le_refl _, (fun t e => by cases e), Nat.le_refl _, Nat.le_refl _, Nat.le_refl _, (fun y e => by cases e), Nat.le_refl _⟩
theorem Small.mono {N M : Nat} {q : Pst} (h : Small N q) (hN : N <= M) : Small M q :=
 ⟨Nat.le_trans h.bws hN, Nat.le_trans h.td hN, fun t ht => Nat.le_trans (h.reps t ht) hN, Nat.le_trans h.zones hN, Nat.le_trans h.atts hN, Nat.le_trans h.md hN, fun y hy => Nat.le_trans (h.mbws y hy) hN, Nat.le_trans h.ma hN⟩
theorem Small.app {N : Nat} {q : Pst} (h : Small N q) (l : Ln) : Small (N + wt l) (q.app l) := by
 have h1 : ∀ k, k <= N -> k <= N + wt l := fun k hk => by omega
 have hw : 1 <= wt l := by cases l <;> simp [wt]
 cases l
 case lb x => exact ⟨by simp [Pst.app, wt]; exact h.bws, h1 _ h.td, fun t ht => h1 _ (h.reps t ht), h1 _ h.zones, h1 _ h.atts, h1 _ h.md, fun y hy => h1 _ (h.mbws y hy), h1 _ h.ma⟩
 case la x => exact ⟨h1 _ h.bws, h1 _ h.td, fun t ht => h1 _ (h.reps t ht), h1 _ h.zones, by simp [Pst.app, wt]; exact h.atts, h1 _ h.md, fun y hy => h1 _ (h.mbws y hy), h1 _ h.ma⟩
 case ma x => exact ⟨h1 _ h.bws, h1 _ h.td, fun t ht => h1 _ (h.reps t ht), h1 _ h.zones, h1 _ h.atts, h1 _ h.md, fun y hy => h1 _ (h.mbws y hy), by simp [Pst.app, wt]; exact h.ma⟩
 case lz zs => exact ⟨h1 _ h.bws, h1 _ h.td, fun t ht => h1 _ (h.reps t ht), by have := h.zones; simp [Pst.app, wt]; omega, h1 _ h.atts, h1 _ h.md, fun y hy => h1 _ (h.mbws y hy), h1 _ h.ma⟩
 case lt x =>
  refine ⟨h1 _ h.bws, ?_, fun t ht => ?_, h1 _ h.zones, h1 _ h.atts, h1 _ h.md, fun y hy => h1 _ (h.mbws y hy), h1 _ h.ma⟩
  · have := h.td
    cases hc : q.tc <;> simp [Pst.app, wt, hc] <;> omega
  simp [Pst.app] at ht
  subst ht; simp
 case lr r =>
  refine ⟨h1 _ h.bws, h1 _ h.td, fun t ht => ?_, h1 _ h.zones, h1 _ h.atts, h1 _ h.md, fun y hy => h1 _ (h.mbws y hy), h1 _ h.ma⟩
  cases hc : q.tc with
  | none => simp [Pst.app, hc] at ht
  | some t0 =>
   simp [Pst.app, hc] at ht
   subst ht
   have := h.reps t0 hc
   simp [wt]; exact this
 case lm m =>
  cases hc : q.mc with
  | none =>
   have e : q.app (.lm m) = { q with mc := some (qNp m) } := by simp [Pst.app, hc]
   rw [e]
   exact ⟨h1 _ h.bws, h1 _ h.td, fun t ht => h1 _ (h.reps t ht), h1 _ h.zones, h1 _ h.atts, h1 _ h.md, fun y hy => by obtain rfl := Option.some.inj hy; simp [qNp], h1 _ h.ma⟩
  | some y0 =>
   have e : q.app (.lm m) = { q with md := q.md ++ [{ y0 with atts := q.ma }], mc := some (qNp m), ma := [] } := by simp [Pst.app, hc]
   rw [e]
   exact ⟨h1 _ h.bws, h1 _ h.td, fun t ht => h1 _ (h.reps t ht), h1 _ h.zones, h1 _ h.atts, by have := h.md; simp [wt]; exact this, fun y hy => by obtain rfl := Option.some.inj hy; simp [qNp], by simp⟩
 case mb x =>
  refine ⟨h1 _ h.bws, h1 _ h.td, fun t ht => h1 _ (h.reps t ht), h1 _ h.zones, h1 _ h.atts, h1 _ h.md, fun y hy => ?_, h1 _ h.ma⟩
  cases hc : q.mc with
  | none => simp [Pst.app, hc] at hy
  | some y0 =>
   simp [Pst.app, hc] at hy
   subst hy
   have := h.mbws y0 hc
   simp [wt]; exact this
 case mi x =>
  refine ⟨h1 _ h.bws, h1 _ h.td, fun t ht => h1 _ (h.reps t ht), h1 _ h.zones, h1 _ h.atts, h1 _ h.md, fun y hy => ?_, h1 _ h.ma⟩
  cases hc : q.mc with
  | none => simp [Pst.app, hc] at hy
  | some y0 => simp [Pst.app, hc] at hy; subst hy; exact h1 _ (h.mbws y0 hc)
 case mc x =>
  refine ⟨h1 _ h.bws, h1 _ h.td, fun t ht => h1 _ (h.reps t ht), h1 _ h.zones, h1 _ h.atts, h1 _ h.md, fun y hy => ?_, h1 _ h.ma⟩
  cases hc : q.mc with
  | none => simp [Pst.app, hc] at hy
  | some y0 => simp [Pst.app, hc] at hy; subst hy; exact h1 _ (h.mbws y0 hc)
 case mkey x =>
  refine ⟨h1 _ h.bws, h1 _ h.td, fun t ht => h1 _ (h.reps t ht), h1 _ h.zones, h1 _ h.atts, h1 _ h.md, fun y hy => ?_, h1 _ h.ma⟩
  cases hc : q.mc with
  | none => simp [Pst.app, hc] at hy
  | some y0 => simp [Pst.app, hc] at hy; subst hy; exact h1 _ (h.mbws y0 hc)
 all_goals exact ⟨h1 _ h.bws, h1 _ h.td, fun t ht => h1 _ (h.reps t ht), h1 _ h.zones, h1 _ h.atts, h1 _ h.md, fun y hy => h1 _ (h.mbws y hy), h1 _ h.ma⟩
structure SsnBig (x : Ssn) : Prop where
 id : 0 <= x.org.id /\ x.org.id < 18446744073709551616
 ver : 0 <= x.org.ver /\ x.org.ver < 18446744073709551616
 bws : ∀ b ∈ x.bws, qDs b.ty /\ 0 <= b.n
 times : ∀ t ∈ x.times, 0 <= t.start /\ 0 <= t.stop
 zones : ∀ z ∈ x.zones, 0 <= z.time
 media : ∀ m ∈ x.media, qDs m.name /\ (∀ y ∈ m.fmts, qDs y) /\ ∀ b ∈ m.bws, qDs b.ty /\ 0 <= b.n
theorem qIj {xs : List ByteArray} (h : one xs = true) : xs.length <= 1 /\ ∀ x ∈ xs, line x = true := by
 match xs, h with
 | [], _ => simp
 | [x], h => exact ⟨by simp, fun y hy => by rw [List.mem_singleton.1 hy]; exact h⟩
theorem qMt {xs : List Con} (h : qEq xs = true) : xs.length <= 1 /\ ∀ x ∈ xs, qDh x = true := by
 match xs, h with
 | [], _ => simp
 | [x], h => exact ⟨by simp, fun y hy => by rw [List.mem_singleton.1 hy]; exact h⟩
theorem bws_ok {xs : List Bwd} (h : qF7 xs = true) : xs.length <= 10 /\ ∀ x ∈ xs, bwB x = true := by
 unfold qF7 at h
 rw [Bool.and_eq_true, all_eq_true] at h
 exact ⟨by simpa using h.2, h.1⟩
theorem qQh {xs : List Att} (h : qEa xs = true) : xs.length <= 20 /\ ∀ x ∈ xs, qMg x = true := by
 unfold qEa at h
 rw [Bool.and_eq_true, all_eq_true] at h
 exact ⟨by simpa using h.2, h.1⟩
theorem qK5 {m : Med} (h : qIw m = true) : one m.title = true /\ qEq m.conn = true /\ qF7 m.bws = true /\ one m.key = true /\ qEa m.atts = true := by
 unfold qIw qGj at h
 simp only [Bool.and_eq_true] at h
 exact ⟨h.2.2.2.2.1, h.2.2.2.2.2.1, h.2.2.2.2.2.2.1, h.2.2.2.2.2.2.2.1, h.2.2.2.2.2.2.2.2⟩
theorem qBz {α : Type} {f : α -> Ln} {xs : List α} (h : ∀ x ∈ xs, qJ0 (f x)) : ∀ l ∈ xs.map f, qJ0 l := fun l hl => by
 obtain ⟨x, hx, rfl⟩ := List.mem_map.1 hl
 exact h x hx
theorem qB0 {a b : List Ln} (h : ∀ l ∈ a, qJ0 l) (k : ∀ l ∈ b, qJ0 l) : ∀ l ∈ a ++ b, qJ0 l := fun l hl => (List.mem_append.1 hl).elim (h l) (k l)
theorem qEt {a : Ln} {b : List Ln} (h : qJ0 a) (k : ∀ l ∈ b, qJ0 l) : ∀ l ∈ a :: b, qJ0 l := fun l hl => (List.mem_cons.1 hl).elim (fun e => e ▸ h) (k l)
theorem med_ok {m : Med} (h : qIw m = true) (hb : qDs m.name /\ (∀ y ∈ m.fmts, qDs y) /\ ∀ b ∈ m.bws, qDs b.ty /\ 0 <= b.n) : (∀ l ∈ qBn m, qJ0 l) /\ wts (qBn m) <= 34 /\ Pst.MedOne m := by
 obtain ⟨h1, h2, h3, h4, h5⟩ := qK5 h
 have a1 := qIj h1
 have a2 := qMt h2
 have a3 := bws_ok h3
 have a4 := qIj h4
 have a5 := qQh h5
 unfold qBn
 refine ⟨qEt ⟨h, hb.1, hb.2.1⟩ (qB0 (qBz a1.2) (qB0 (qBz a2.2) (qB0 (qBz (fun b hb' => ⟨a3.2 b hb', hb.2.2 b hb'⟩)) (qB0 (qBz a4.2) (qBz a5.2))))), ?_, a1.1, a2.1, a4.1⟩
 rw [qEe, qBo, qBo, qBo, qBo, qC9 (fun _ => rfl), qC9 (fun _ => rfl), qC9 (fun _ => rfl), qC9 (fun _ => rfl), qC9 (fun _ => rfl)]
 have : wt (.lm m) = 1 := rfl
 omega
theorem qG0 {x : Ssn} (h : qC5 x = true) (hb : SsnBig x) : (∀ l ∈ lns x, qJ0 l) /\ wts (lns x) <= 1000 /\ SsnOne x /\ 0 < x.times.length /\ x.ver = 0 := by
 unfold qC5 qIb qGk at h
 simp only [Bool.and_eq_true] at h
 obtain ⟨⟨v0, v1, v2, v3, v4, v5, v6, v7, v8⟩, z, md, t1, t2, t3, t4, t5, t6, t7, t8⟩ := h
 have a1 := qIj t1
 have a2 := qIj t2
 have a3 := qIj t3
 have a4 := qIj t4
 have a5 := qMt t5
 have a6 := bws_ok t6
 have a7 := qIj t7
 have a8 := qQh t8
 unfold qEk at v6
 simp only [Bool.and_eq_true, all_eq_true, decide_eq_true_eq] at v6 v7 v8
 have hz := List.all_eq_true.1 z
 have hmd := List.all_eq_true.1 md
 have ht : ∀ t ∈ x.times, (∀ l ∈ qBl t, qJ0 l) /\ wts (qBl t) <= 6 := fun t htm => by
  have h1 := v6.1 t htm
  unfold qN6 at h1
  simp only [Bool.and_eq_true, all_eq_true, decide_eq_true_eq] at h1
  have h2 := hb.times t htm
  unfold qBl
  refine ⟨qEt ⟨⟨h2.1, by omega⟩, h2.2, by omega⟩ (qBz (fun r hr => h1.2 r hr)), ?_⟩
  rw [qEe, qC9 (fun _ => rfl)]
  have : wt (.lt t) = 1 := rfl
  omega
 have hm : ∀ m ∈ x.media, _ := fun m hm => med_ok (hmd m hm) (hb.media m hm)
 refine ⟨?_, ?_, ⟨a1.1, a2.1, a3.1, a4.1, a5.1, a7.1, fun m hx => (hm m hx).2.2⟩, by omega, by simpa using v0⟩
 · unfold lns
   refine qEt trivial (qEt ⟨v1, hb.id, hb.ver, inT_of v2, v3, v4⟩ (qEt v5 (qB0 (qBz a1.2) (qB0 (qBz a2.2) (qB0 (qBz a3.2) (qB0 (qBz a4.2) (qB0 (qBz a5.2) (qB0 (qBz (fun b hb' => ⟨a6.2 b hb', hb.bws b hb'⟩)) (qB0 ?_ (qB0 ?_ (qB0 (qBz a7.2) (qB0 (qBz a8.2) ?_))))))))))))
   · intro l hl
     obtain ⟨t, ht1, ht2⟩ := List.mem_flatMap.1 hl
     exact (ht t ht1).1 l ht2
   · split
     · intro l hl; simp at hl
     rename_i h0
     intro l hl
     rw [List.mem_singleton.1 hl]
     exact ⟨fun e => h0 (by rw [e]; rfl), v7, fun y hy => ⟨hz y hy, hb.zones y hy⟩⟩
   intro l hl
   obtain ⟨m, hm1, hm2⟩ := List.mem_flatMap.1 hl
   exact (hm m hm1).1 l hm2
 have e1 := qMs x.times (fun t h => (ht t h).2)
 have e2 := qMs x.media (fun m h => (hm m h).2.1)
 have e3 : wts (if x.zones.length = 0 then [] else [Ln.lz x.zones]) <= 6 := by
  split
  · simp [wts]
  simp [wts, wt]; omega
 unfold lns
 rw [qEe, qEe, qEe, qBo, qBo, qBo, qBo, qBo, qBo, qBo, qBo, qBo, qBo,
  qC9 (fun _ => rfl), qC9 (fun _ => rfl), qC9 (fun _ => rfl), qC9 (fun _ => rfl), qC9 (fun _ => rfl), qC9 (fun _ => rfl), qC9 (fun _ => rfl), qC9 (fun _ => rfl)]
 have k1 : wt Ln.lv = 1 := rfl
 have k2 : wt (.lo x.org) = 1 := rfl
 have k3 : wt (.ls x.name) = 1 := rfl
 have k4 : x.times.length * 6 <= 5 * 6 := Nat.mul_le_mul_right _ v6.2.2
 have k5 : x.media.length * 34 <= 5 * 34 := Nat.mul_le_mul_right _ v8
 omega
attribute [local go_sem ↓] Go.wp_at_zero Go.wp_at_succ
set_option maxRecDepth 100000 in
theorem step_mi (B : Nat) (w : World) (ρ : Nat -> Nat) (L D C : Nat) (s : ByteArray) (p m r : Nat) (q : Pst) (V : Vs) (N : Nat) (y : Med) (h : PS B w ρ L D C s p q V) (hs : qAb s) (hN : Small N q) (hN2 : N <= 1000000000) (hmc : q.mc = some y) (hpm : p <= m) (hW : Whole s p m) (hle : qA5 s m r) :
 Calls prog 275 #[.pointer (some ⟨L, 0, none⟩)] w (qAr V.pro B w L D C s r (q.app (.mi (s.extract p m))) 283) := by
 obtain ⟨x, hx⟩ : ∃ x, x = s.extract p m := ⟨_, rfl⟩
 have hwx : qAb x := by rw [hx]; exact qAs _ _ hs
 have HX := hid hx
 have hmd := hN.md
 clear hx
 go_enter func275, ntmps275
 go_upto_region 4 with (go_at_call 213; (with_reducible refine (qBk L _ _ s p m r _ h.lx hs hpm hW hle).mono ?_); rw [<- HX.out]; rintro e w1 ⟨rfl, hx1, hf1⟩; have h1 := h.lex hf1 hx1; have l0 := h1.lx.cell 0 rfl; unfold pD at l0)
 obtain ⟨T, c, d18, m0, _, nT⟩ := h1.last hmc
 go_quiet (fail)
 obtain ⟨w2, hw2⟩ : ∃ w2, w2 = w1.drewN nq := ⟨_, rfl⟩
 have n2 : Nw w1 w2 := by rw [hw2]; exact (Nw.refl w1).drewN _
 rw [<- hw2]
 clear hw2 d18 m0 l0
 have h2 := h1.nw n2
 obtain ⟨_, _, _, _, hC2, _⟩ := h2.last hmc
 have c5 := hC2.blk.cell 5 rfl
 have f5 := hC2.blk.fz 5
 have nM := hC2.blk.lt
 go_wp2
 go_ret2
 rw [<- HX.out]
 have hq : q.app (.mi x) = { q with mc := some { y with title := [x] } } := by simp [Pst.app, hmc]
 rw [hq]
 have e1 : (w2.setCell ⟨V.m.M, 5, none⟩ (.pointer (some ⟨w2.heap.size, 0, none⟩))).heap.size = w2.heap.size := by simp [World.setCell]
 exact qAr.mk (h2.mset (y' := { y with title := [x] }) (Vm := { V.m with mtitle := .pointer (some ⟨w2.heap.size, 0, none⟩) }) hmc (by (apply_rules [Fr.refl, Fr.drew, Fr.drewN, Fr.alloc, Fr.put])) ⟨rfl, rfl⟩ (fun k1 k2 k3 => ⟨(hC2.blk.set 5 _).alloc _, k3, hC2.name, hC2.port, k1 _ hC2.ports, k1 _ hC2.protos, k1 _ hC2.fmts, qFs (Blk.made' e1.symm [.string x] 162) (qCm (Nat.le_refl _)) (qE8 hwx), k1 _ hC2.conn, k2, k1 _ hC2.key⟩))
  ((hf1.mono (fun k _ e => e ▸ h.BL)).trans ((n2.fr _).trans (((Fr.refl _ _).setCell (.inl (.inl (.inl (h2.kp.zero _ (by rw [hC2.own]; decide))))) _).alloc _)))
set_option maxRecDepth 100000 in
theorem qQi (B : Nat) (w : World) (ρ : Nat -> Nat) (L D C : Nat) (s : ByteArray) (p m r : Nat) (q : Pst) (V : Vs) (N : Nat) (y : Med) (h : PS B w ρ L D C s p q V) (hs : qAb s) (hN : Small N q) (hN2 : N <= 1000000000) (hmc : q.mc = some y) (hpm : p <= m) (hW : Whole s p m) (hle : qA5 s m r) :
 Calls prog 272 #[.pointer (some ⟨L, 0, none⟩)] w (qAr V.pro B w L D C s r (q.app (.mkey (s.extract p m))) 281) := by
 obtain ⟨x, hx⟩ : ∃ x, x = s.extract p m := ⟨_, rfl⟩
 have hwx : qAb x := by rw [hx]; exact qAs _ _ hs
 have HX := hid hx
 have hmd := hN.md
 clear hx
 go_enter func272, ntmps272
 go_upto_region 4 with (go_at_call 213; (with_reducible refine (qBk L _ _ s p m r _ h.lx hs hpm hW hle).mono ?_); rw [<- HX.out]; rintro e w1 ⟨rfl, hx1, hf1⟩; have h1 := h.lex hf1 hx1; have l0 := h1.lx.cell 0 rfl; unfold pD at l0)
 obtain ⟨T, c, d18, m0, _, nT⟩ := h1.last hmc
 go_quiet (fail)
 obtain ⟨w2, hw2⟩ : ∃ w2, w2 = w1.drewN nq := ⟨_, rfl⟩
 have n2 : Nw w1 w2 := by rw [hw2]; exact (Nw.refl w1).drewN _
 rw [<- hw2]
 clear hw2 d18 m0 l0
 have h2 := h1.nw n2
 obtain ⟨_, _, _, _, hC2, _⟩ := h2.last hmc
 have c5 := hC2.blk.cell 8 rfl
 have f5 := hC2.blk.fz 8
 have nM := hC2.blk.lt
 go_wp2
 go_ret2
 rw [<- HX.out]
 have hq : q.app (.mkey x) = { q with mc := some { y with key := [x] } } := by simp [Pst.app, hmc]
 rw [hq]
 have e1 : (w2.setCell ⟨V.m.M, 8, none⟩ (.pointer (some ⟨w2.heap.size, 0, none⟩))).heap.size = w2.heap.size := by simp [World.setCell]
 exact qAr.mk (h2.mset (y' := { y with key := [x] }) (Vm := { V.m with mkey := .pointer (some ⟨w2.heap.size, 0, none⟩) }) hmc (by (apply_rules [Fr.refl, Fr.drew, Fr.drewN, Fr.alloc, Fr.put])) ⟨rfl, rfl⟩ (fun k1 k2 k3 => ⟨(hC2.blk.set 8 _).alloc _, k3, hC2.name, hC2.port, k1 _ hC2.ports, k1 _ hC2.protos, k1 _ hC2.fmts, k1 _ hC2.title, k1 _ hC2.conn, k2, qFs (Blk.made' e1.symm [.string x] 171) (qCm (Nat.le_refl _)) (qE8 hwx)⟩))
  ((hf1.mono (fun k _ e => e ▸ h.BL)).trans ((n2.fr _).trans (((Fr.refl _ _).setCell (.inl (.inl (.inl (h2.kp.zero _ (by rw [hC2.own]; decide))))) _).alloc _)))
theorem Blk.setM {w : World} {g : Nat} {l l' : List Value} {t : TypeId} (h : Blk w g l t) (j : Nat) (u : Value) (e : l.set j u = l') : Blk (w.setCell ⟨g, j, none⟩ u) g l' t := e ▸ h.set j u
set_option maxRecDepth 100000 in
theorem step_mc (B : Nat) (w : World) (ρ : Nat -> Nat) (L D C : Nat) (s : ByteArray) (p m1 p1 m2 p2 m r : Nat) (q : Pst) (V : Vs) (a : Addr) (N : Nat) (y : Med) (x : Con) (h : PS B w ρ L D C s p q V) (hs : qAb s) (hE : Eof w a) (hN : Small N q) (hN2 : N <= 1000000000) (hmc : q.mc = some y)
 (h1 : p <= m1) (hp1 : qB7 s p m1) (hs1 : qCl s m1 p1) (h2 : p1 <= m2) (hp2 : qB7 s p1 m2) (hs2 : qCl s m2 p2) (h3 : p2 < m) (hp3 : qB7 s p2 m) (hle : qA5 s m r) (hn : NextAt s r)
 (hi1 : qDb (s.extract p m1) inT = true) (hi2 : qDb (s.extract p1 m2) qA1 = true) (hx : qBf x = ⟨s.extract p m1, s.extract p1 m2, [⟨s.extract p2 m, [], []⟩]⟩) :
 Calls prog 274 #[.pointer (some ⟨L, 0, none⟩)] w (qAr V.pro B w L D C s r (q.app (.mc x)) 282) := by
 have hwf1 := qAs p m1 hs
 have hwf2 := qAs p1 m2 hs
 have hwf3 := qAs p2 m hs
 have l0 := h.lx.cell 0 rfl
 unfold pD at l0
 have hl0 := h.lne
 have HX := hid hx
 have hmd := hN.md
 clear hx
 obtain ⟨T, c, d18, m0, _, nT⟩ := h.last hmc
 go_enter func274, ntmps274
 go_upto_region 2 with fail
 go_quiet (fail)
 obtain ⟨w0, hw0⟩ : ∃ w0, w0 = w.drewN nq := ⟨_, rfl⟩
 have n0 : Nw w w0 := by rw [hw0]; exact (Nw.refl w).drewN _
 rw [<- hw0]
 clear hw0 d18 m0 l0
 have g0 := h.nw n0
 have hE0 : Eof w0 a := hE.nw n0
 obtain ⟨_, _, _, _, hC0, _⟩ := g0.last hmc
 have nM := hC0.blk.lt
 have hML : ¬ V.m.M = L := fun e => by have := hC0.own; rw [e, g0.rL] at this; cases this
 go_wp2_with (go_at_call 229; (with_reducible refine (qMn L (pD D) (pD C) s p m1 p1 m2 p2 m r a _ g0.lx hs hE0 hl0 h1 hp1 hs1 h2 hp2 hs2 h3 hp3 hle hn hi1 hi2).mono ?_); rintro e w1 ⟨g, g', rfl, hg, hg', hB1, hC1, hX1, hF1⟩; have hM1 := hC0.blk.fr hF1 hML; have c6 := hM1.cell 6 rfl; have f6 := hM1.fz 6)
 go_ret2
 have g1 := g0.lexN hF1 hX1
 obtain ⟨_, _, _, _, hC2, _⟩ := g1.last hmc
 have e : q.app (.mc x) = { q with mc := some { y with conn := [⟨s.extract p m1, s.extract p1 m2, [⟨s.extract p2 m, [], []⟩]⟩] } } := by
  simp only [Pst.app, hmc, Option.map_some, HX.out]
 rw [e]
 have o1 : ∀ k, w0.heap.size <= k -> k < w1.heap.size -> ext (ext (ext ρ w.heap.size (fun _ => 0)) w0.heap.size (fun _ => 0)) w1.heap.size (fun _ => 0) k = 0 := fun k k1 k2 => by rw [qAz k2, qCm k1]
 have n3 : ¬ g = V.m.M := fun e => by omega
 have n4 : ¬ g' = V.m.M := fun e => by omega
 exact qAr.mk (g1.mset (y' := { y with conn := [⟨s.extract p m1, s.extract p1 m2, [⟨s.extract p2 m, [], []⟩]⟩] }) (Vm := { V.m with mconn := .pointer (some ⟨g, 0, none⟩) }) hmc (by (apply_rules [Fr.refl, Fr.drew, Fr.drewN, Fr.alloc, Fr.put])) ⟨rfl, rfl⟩ (fun k1 k2 k3 => ⟨hM1.set 6 _, k3, hC2.name, hC2.port, k1 _ hC2.ports, k1 _ hC2.protos, k1 _ hC2.fmts, k1 _ hC2.title, qMo (hB1.other n3 _) (hC1.other n4 _) (o1 g hg hB1.lt) (o1 g' hg' hC1.lt) hwf1 hwf2 hwf3, k2, k1 _ hC2.key⟩))
  ((n0.fr _).trans ((hF1.mono (fun k _ e => .inl (e ▸ h.BL))).trans ((Fr.refl _ _).setCell (.inl (.inl (.inl (g0.kp.zero _ (by rw [hC0.own]; decide))))) _)))
set_option maxRecDepth 100000 in
set_option maxHeartbeats 1000000 in
theorem step_mb (B : Nat) (w : World) (ρ : Nat -> Nat) (L D C : Nat) (s : ByteArray) (p m r : Nat) (q : Pst) (V : Vs) (N : Nat) (y : Med) (b : Bwd) (h : PS B w ρ L D C s p q V) (hs : qAb s) (hN : Small N q) (hN2 : N <= 1000000000) (hmc : q.mc = some y) (hpm : p <= m) (hW : Whole s p m) (hle : qA5 s m r)
 (hb : bwB b = true) (hwb : qAb b.ty /\ qAg .u64 b.n) (hx : s.extract p m = mk (qF8 b)) (hsz : (qF8 b).length <= 1000000000000) :
 Calls prog 273 #[.pointer (some ⟨L, 0, none⟩)] w (qAr V.pro B w L D C s r (q.app (.mb b)) 282) := by
 have hmd := hN.md
 go_enter func273, ntmps273
 go_upto_region 4 with (go_at_call 213; (with_reducible refine (qBk L _ _ s p m r _ h.lx hs hpm hW hle).mono ?_); rw [hx]; rintro e w1 ⟨rfl, hx1, hf1⟩; have h1 := h.lex hf1 hx1; have l0 := h1.lx.cell 0 rfl; unfold pD at l0)
 obtain ⟨T, c, d18, m0, _, nT⟩ := h1.last hmc
 go_quiet (fail)
 obtain ⟨w2, hw2⟩ : ∃ w2, w2 = w1.drewN nq := ⟨_, rfl⟩
 have n2 : Nw w1 w2 := by rw [hw2]; exact (Nw.refl w1).drewN _
 rw [<- hw2]
 clear hw2 d18 m0 l0
 have h2 := h1.nw n2
 clear h1
 go_upto_region 8 with (go_at_call 231; (with_reducible refine (par_bw b w2 hb hwb hsz).mono ?_); rintro e w3 ⟨g, rfl, hg1, hB3, hn3⟩)
 have h3 := h2.nw hn3
 obtain ⟨_, _, _, _, hC3, _⟩ := h3.last hmc
 have hrow : Row w3 B 198 3 V.m.mbws (y.bws.map qCj) := (qAo.toFlat hC3.bws.1).1
 have hown := hC3.bws.2
 have d7 := hC3.blk.cell 7 rfl
 have e7 := hC3.blk.fz 7
 have g0 := hB3.cell 0 (u := .bool b.x) rfl
 have g1 := hB3.cell 1 (u := .string b.ty) rfl
 have g2 := hB3.cell 2 (u := .int .u64 b.n) rfl
 have nM := hC3.blk.lt
 have nG := hB3.lt
 have hrl : (y.bws.map qCj).length <= 1000000000 := by have := hN.mbws y hmc; simp; omega
 have hBw : B <= w3.heap.size := by have := h3.BD; have := h3.dd.lt; omega
 have hneM : ¬ some V.m.M = V.m.mbws.ownBlock := fun e => by have := hown _ e.symm; rw [hC3.own] at this; cases this
 go_region_law ((refine qA3 rfl ?_; (with_reducible refine qAn B (.tmp 48) (.tmp 52) 108 198 3 (.agg #[.bool false, .string ⟨#[]⟩, .int .u64 0]) 32 ?_ underlying108 inf198 ?_ ?_ V.m.mbws (y.bws.map qCj) (qCj b) ?_ w3.heap.size ?_ (qJg b) ?_ ?_ ?_ ?_ ?_ ?_); (focus rfl); (focus rfl); (focus decide); (focus rfl); (focus rfl); (focus (exact fun j u hu => Blk.cell (Blk.made w3 (qCj b) 198).drew j hu)); (focus (exact (hrow.alloc _).nw (Nw.refl _).drew)); (focus (simp; omega)); (focus omega); (focus omega); intro v6 w6 hr6 hf6 ho6); obtain ⟨Av, cv, rfl, _⟩ := hr6.form; have hM6 := (hC3.blk.alloc _).drew.fr hf6 hneM; have k6 := hM6.cell 7 rfl; have z6 := hM6.fz 7)
 all_goals
  go_wp2
  go_ret2
  obtain ⟨⟨ρ', h'⟩, hf'⟩ := h3.addMb hmc (((Nw.refl _).alloc _).drew) hr6 hf6 ho6 hwb
  refine qAr.mk (by simpa using h') (by simpa using (hf1.mono (fun k _ e => e ▸ h.BL)).trans (((n2.trans hn3).fr _).trans (hf'.mono (fun k _ e => .inl (.inl e))))) ?_
  rfl
end Go.Proofs.YtcepdjlknalmnaaGreatDoor
/- The parts of a medium's line. qB7 laws, and the two tests against lists. -/
namespace Go.Proofs.YtcepdjlknalmnaaGreatDoor
open Tryz
open List (length_cons mem_cons_self mem_cons_of_mem all_eq_true)
open Lib (decDigits hid)
open Go.RowKit
theorem qNw {z : UInt8} : ∀ (xs : List ByteArray) (x : ByteArray), (∀ y ∈ x :: xs, ∀ c ∈ bs y, c ≠ z) -> qC8 z (qAk [z] (x :: xs)) = (x :: xs).map bs := by
 intro xs
 induction xs with
 | nil =>
  intro x h
  have e1 : qAk [z] [x] = bs x := by simp [qAk]
  rw [e1, qFz (h x mem_cons_self)]
  rfl
 | cons x2 xs ih =>
  intro x h
  have e1 : qAk [z] (x :: x2 :: xs) = bs x ++ z :: qAk [z] (x2 :: xs) := by simp [qAk]
  rw [e1, qG9 (h x mem_cons_self), ih x2 (fun y hy => h y (mem_cons_of_mem _ hy))]
  rfl
theorem in_ne {x : ByteArray} {xs : List ByteArray} {z : UInt8} (h : qDb x xs = true) (hx : xs.all (fun y => (bs y).all (fun c => c != z)) = true) : ∀ c ∈ bs x, c ≠ z := by
 obtain ⟨y, hy, e⟩ := qF0 h
 have := List.all_eq_true.1 hx y hy
 rw [<- e]
 intro c hc
 simpa using List.all_eq_true.1 this c hc
theorem qL1 {xs : List ByteArray} (h0 : 0 < xs.length) (h : ∀ x ∈ xs, qDb x qBw = true) : qC8 47 (qAk [47] xs) = xs.map bs := by
 match xs, h0 with
 | x :: xs, _ => exact qNw xs x (fun y hy => in_ne (h y hy) (by decide))
theorem qJ1 {n : Int} (h0 : 0 <= n) (h1 : n <= 1000000000) : (decDigits (Int.toNat (n % 18446744073709551616))) = decDigits n.toNat := by
 congr 2
 omega
theorem qJ2 (u : Nat) : ∀ c ∈ decDigits u, c ≠ 47 := fun c hc e => by have := qC7 u c hc; rw [e] at this; exact absurd this.1 (by decide)
theorem qL2 {m : Med} (h0 : 0 <= m.port) (h1 : m.port <= 65535) (hp : m.ports = []) : qC8 47 (qCo m) = [decDigits m.port.toNat] := by
 have e : qCo m = decDigits m.port.toNat := by
  unfold qCo
  rw [hp, qJ1 h0 (by omega)]
  simp [qAx]
 rw [e, qFz (qJ2 _)]
theorem qL3 {m : Med} {n : Int} (h0 : 0 <= m.port) (h1 : m.port <= 65535) (hp : m.ports = [n]) (k0 : 0 <= n) (k1 : n <= 10000) : qC8 47 (qCo m) = [decDigits m.port.toNat, decDigits n.toNat] := by
 have e : qCo m = decDigits m.port.toNat ++ 47 :: decDigits n.toNat := by
  have e2 : qAx [n] = 47 :: decDigits n.toNat := by
   rw [<- qJ1 k0 (by omega)]
   simp [qAx]
  unfold qCo
  rw [hp, qJ1 h0 (by omega), e2]
 rw [e, qG9 (qJ2 _), qFz (qJ2 _)]
theorem qJ3 (x : ByteArray) (g : Nat) (w : World) (hb : Blk w g [.string ⟨#[97, 117, 100, 105, 111]⟩, .string ⟨#[118, 105, 100, 101, 111]⟩, .string ⟨#[116, 101, 120, 116]⟩, .string ⟨#[97, 112, 112, 108, 105, 99, 97, 116, 105, 111, 110]⟩, .string ⟨#[109, 101, 115, 115, 97, 103, 101]⟩] 9) (hi : qDb x qB3 = true) : Calls prog 174 #[.string x, .slice (some ⟨g, 0, none⟩) 5 5] w fun e w' => e = .returned (.bool true) /\ w = w' :=
 (qFt x qB3 _ w (qKz hb (qCi (by decide)) rfl (by decide) (by decide))).mono (fun _ _ h => ⟨by rw [h.1, hi], h.2⟩)
def qJ4 : List ByteArray := qBw ++ [⟨#[84, 67, 80]⟩, ⟨#[77, 83, 82, 80]⟩, ⟨#[66, 70, 67, 80]⟩, ⟨#[85, 68, 84]⟩, ⟨#[73, 88]⟩, ⟨#[77, 82, 67, 80, 118, 50]⟩, ⟨#[70, 69, 67]⟩]
theorem qIk (x : ByteArray) (g : Nat) (w : World) (hb : Blk w g [.string ⟨#[85, 68, 80]⟩, .string ⟨#[82, 84, 80]⟩, .string ⟨#[65, 86, 80]⟩, .string ⟨#[83, 65, 86, 80]⟩, .string ⟨#[83, 65, 86, 80, 70]⟩, .string ⟨#[84, 76, 83]⟩, .string ⟨#[68, 84, 76, 83]⟩, .string ⟨#[83, 67, 84, 80]⟩, .string ⟨#[65, 86, 80, 70]⟩, .string ⟨#[84, 67, 80]⟩, .string ⟨#[77, 83, 82, 80]⟩, .string ⟨#[66, 70, 67, 80]⟩, .string ⟨#[85, 68, 84]⟩, .string ⟨#[73, 88]⟩, .string ⟨#[77, 82, 67, 80, 118, 50]⟩, .string ⟨#[70, 69, 67]⟩] 9)
 (hi : qDb x qBw = true) : Calls prog 174 #[.string x, .slice (some ⟨g, 0, none⟩) 16 16] w fun e w' => e = .returned (.bool true) /\ w = w' := by
 have h16 : qDb x qJ4 = true := by
  unfold qDb qJ4 at *
  rw [List.any_append, hi]; rfl
 exact (qFt x qJ4 _ w (qKz hb (qCi (by decide)) rfl (by decide) (by decide))).mono (fun _ _ h => ⟨by rw [h.1, h16], h.2⟩)
theorem app_lm (q : Pst) (m : Med) (h : q.mc = none -> q.ma = []) : q.app (.lm m) = { q.pop with mc := some (qNp m) } := by
 cases hc : q.mc with
 | none => simp [Pst.app, Pst.pop, hc, h hc]
 | some y => simp [Pst.app, Pst.pop, hc]
theorem qQj {n : Nat} {xs : List ByteArray} (h : ∀ x ∈ xs, x.size <= n) : (qAk [47] xs).length <= xs.length * (n + 1) := by
 have h1 : ∀ l : List ByteArray, (∀ x ∈ l, x.size <= n) -> (l.flatMap (fun y => [47] ++ bs y)).length <= l.length * (n + 1) := fun l => by
  induction l with
  | nil => intro _; simp
  | cons a l ih =>
   intro h
   have e : (bs a).length = a.size := qA4 a
   have := h a mem_cons_self
   have := ih (fun x hx => h x (mem_cons_of_mem _ hx))
   simp only [List.flatMap_cons, List.length_append, length_cons, List.length_nil, Nat.succ_mul]
   omega
 cases xs with
 | nil => simp [qAk]
 | cons x xs =>
  have e : (bs x).length = x.size := qA4 x
  have := h x mem_cons_self
  have := h1 xs (fun y hy => h y (mem_cons_of_mem _ hy))
  simp only [qAk, List.length_append, length_cons, Nat.succ_mul]
  omega
theorem in_size {x : ByteArray} {xs : List ByteArray} {n : Nat} (h : qDb x xs = true) (hx : xs.all (fun y => decide (y.size <= n)) = true) : x.size <= n := by
 obtain ⟨y, hy, e⟩ := qF0 h
 have h1 : y.size <= n := by simpa using List.all_eq_true.1 hx y hy
 have : x.size = y.size := by rw [<- qA4, <- qA4]; exact congrArg List.length e.symm
 omega
theorem port_le {m : Med} (h0 : 0 <= m.port) (h1 : m.port <= 65535) (hl : m.ports.length <= 1) : (qCo m).length <= 1000 := by
 have hd : ∀ u, u < 18446744073709551616 -> (decDigits u).length <= 20 := fun u hu => by
  have := qDf hu
  rwa [qAy] at this
 have hm : ∀ n : Int, ((decDigits (Int.toNat (n % 18446744073709551616)))).length <= 20 := fun n => hd _ (by omega)
 have h3 := hm m.port
 unfold qCo
 rw [List.length_append]
 match m.ports, hl with
 | [], _ => simp [qAx]; omega
 | [n], _ =>
  have h4 := hm n
  simp [qAx]; omega
def qI3 (x : ByteArray) : List Value := [.string x]
theorem qMu (x : ByteArray) : (qI3 x).length = 1 /\ ∀ u ∈ qI3 x, u.oneCell' = true := ⟨rfl, fun u hu => by rw [List.mem_singleton.1 hu]; rfl⟩
theorem qK6 {w : World} {B : Nat} {v : Value} {xs : List ByteArray} {ok : Nat -> Prop} (h : Row w B 9 1 v (xs.map qI3)) (hb : ∀ k, B <= k -> ok k) (hm : xs.length <= 140737488355328) (hw : ∀ x ∈ xs, qAb x) : qAq (fun W => qAd.Sl W xs v) w ok := fun W hW =>
 Row.slFlat (enc := fun s => [Value.string s]) (hl := fun _ => rfl) (h1 := fun _ u hu => by rw [List.mem_singleton.1 hu]; rfl) (h.move (fun k hk => hW k (hb k (h.base k hk).1) (h.base k hk).2)) hm hw
end Go.Proofs.YtcepdjlknalmnaaGreatDoor

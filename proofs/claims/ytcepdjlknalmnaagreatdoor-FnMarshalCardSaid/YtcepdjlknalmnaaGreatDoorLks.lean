/- Lines that are right, and what the reader must have read ahead of them. Plain laws. -/
import Derived.Test.YtcepdjlknalmnaaGreatDoorSegs
namespace Go.Proofs.YtcepdjlknalmnaaGreatDoor
open Go.RowKit
set_option linter.unusedSimpArgs false
set_option linter.unusedVariables false
def bigStr (x : ByteArray) : Prop := x.size ≤ 2147483647
def LnOk : Ln → Prop
 | .lv => True
 | .lo o => word o.user = true ∧ (0 ≤ o.id ∧ o.id < 18446744073709551616) ∧ (0 ≤ o.ver ∧ o.ver < 18446744073709551616) ∧ isIn o.net inT = true ∧ isIn o.addr ipTypes = true ∧ word o.adr = true
 | .ls x => line x = true
 | .li x => line x = true
 | .lu x => line x = true
 | .le x => line x = true
 | .lp x => line x = true
 | .lc c => conHead c = true
 | .lb b => bwB b = true ∧ bigStr b.ty ∧ 0 ≤ b.n
 | .lt t => (0 ≤ t.start ∧ t.start < 18446744073709551616) ∧ (0 ≤ t.stop ∧ t.stop < 18446744073709551616)
 | .lr r => repB r = true
 | .lz zs => zs ≠ [] ∧ zs.length ≤ 5 ∧ ∀ z ∈ zs, zonB z = true ∧ 0 ≤ z.time
 | .lk x => line x = true
 | .la a => attB a = true
 | .lm m => medB m = true ∧ bigStr m.name ∧ (∀ x ∈ m.fmts, bigStr x)
 | .mi x => line x = true
 | .mc c => conHead c = true
 | .mb b => bwB b = true ∧ bigStr b.ty ∧ 0 ≤ b.n
 | .mkey x => line x = true
 | .ma a => attB a = true
structure Inv (n : Nat) (q : Pst) : Prop where
 t9 : n = 9 → ∃ t, q.tc = some t
 m12 : n ∈ [12, 14, 15, 16] → ∃ y, q.mc = some y
 m0 : q.mc = none → q.ma = []
theorem Inv.zero : Inv 1 Pst.zero := ⟨(fun e => by cases e), fun e => by simp at e, fun _ => rfl⟩
theorem Inv.step {n : Nat} {q : Pst} {l : Ln} (h : Inv n q) (hn : n ∈ l.from_) : Inv l.dst (q.app l) := by
 cases l
 case lm m =>
  refine ⟨(fun e => by cases e), fun _ => ?_, ?_⟩
  · cases hc : q.mc <;> exact ⟨med0 m, by simp [Pst.app, hc]⟩
  · cases hc : q.mc <;> simp [Pst.app, hc]
 case mi x => obtain ⟨y, hy⟩ := h.m12 hn; exact ⟨(fun e => by cases e), fun _ => ⟨{ y with title := [x] }, by simp [Pst.app, hy]⟩, fun e => by simp [Pst.app, hy] at e⟩
 case mc x => obtain ⟨y, hy⟩ := h.m12 hn; exact ⟨(fun e => by cases e), fun _ => ⟨{ y with conn := [flatCon x] }, by simp [Pst.app, hy]⟩, fun e => by simp [Pst.app, hy] at e⟩
 case mb x => obtain ⟨y, hy⟩ := h.m12 hn; exact ⟨(fun e => by cases e), fun _ => ⟨{ y with bws := y.bws ++ [x] }, by simp [Pst.app, hy]⟩, fun e => by simp [Pst.app, hy] at e⟩
 case mkey x => obtain ⟨y, hy⟩ := h.m12 hn; exact ⟨(fun e => by cases e), fun _ => ⟨{ y with key := [x] }, by simp [Pst.app, hy]⟩, fun e => by simp [Pst.app, hy] at e⟩
 case ma x => obtain ⟨y, hy⟩ := h.m12 hn; exact ⟨(fun e => by cases e), fun _ => ⟨y, by simp [Pst.app, hy]⟩, fun e => by simp [Pst.app, hy] at e⟩
 case lt t => exact ⟨fun _ => ⟨_, rfl⟩, fun e => by simp [Ln.dst] at e, h.m0⟩
 case lr r =>
  obtain ⟨t, ht⟩ := h.t9 (by simpa [Ln.from_] using hn)
  exact ⟨fun _ => ⟨⟨t.start, t.stop, t.reps ++ [r]⟩, by simp [Pst.app, ht]⟩, fun e => by simp [Ln.dst] at e, h.m0⟩
 all_goals exact ⟨fun e => by simp [Ln.dst] at e, fun e => by simp [Ln.dst] at e, h.m0⟩
def wt : Ln → Nat
 | .lz zs => zs.length + 1
 | _ => 1
def wts (ls : List Ln) : Nat := (ls.map wt).sum
theorem wts_append (a b : List Ln) : wts (a ++ b) = wts a + wts b := by simp [wts]
theorem wts_cons (l : Ln) (a : List Ln) : wts (l :: a) = wt l + wts a := by simp [wts]
theorem wts_map {α : Type} {f : α → Ln} (hf : ∀ x, wt (f x) = 1) (xs : List α) : wts (xs.map f) = xs.length := by
 induction xs with
 | nil => rfl
 | cons x xs ih => rw [List.map_cons, wts_cons, ih, hf, List.length_cons]; omega
theorem wts_flat {α : Type} {f : α → List Ln} {n : Nat} (xs : List α) (hf : ∀ x ∈ xs, wts (f x) ≤ n) : wts (xs.flatMap f) ≤ xs.length * n := by
 induction xs with
 | nil => simp [wts]
 | cons x xs ih =>
  rw [List.flatMap_cons, wts_append, List.length_cons, Nat.succ_mul]
  have := hf x List.mem_cons_self
  have := ih (fun y hy => hf y (List.mem_cons_of_mem _ hy))
  omega
theorem Small.zero : Small 0 Pst.zero := ⟨Nat.le_refl _, Nat.le_refl _, (fun t e => by cases e), Nat.le_refl _, Nat.le_refl _, Nat.le_refl _, (fun y e => by cases e), Nat.le_refl _⟩
theorem Small.mono {N M : Nat} {q : Pst} (h : Small N q) (hN : N ≤ M) : Small M q :=
 ⟨Nat.le_trans h.bws hN, Nat.le_trans h.td hN, fun t ht => Nat.le_trans (h.reps t ht) hN, Nat.le_trans h.zones hN, Nat.le_trans h.atts hN, Nat.le_trans h.md hN, fun y hy => Nat.le_trans (h.mbws y hy) hN, Nat.le_trans h.ma hN⟩
theorem Small.app {N : Nat} {q : Pst} (h : Small N q) (l : Ln) : Small (N + wt l) (q.app l) := by
 have h1 : ∀ k, k ≤ N → k ≤ N + wt l := fun k hk => by omega
 have hw : 1 ≤ wt l := by cases l <;> simp [wt]
 cases l
 case lb x => exact ⟨by simp [Pst.app, wt]; exact h.bws, h1 _ h.td, fun t ht => h1 _ (h.reps t ht), h1 _ h.zones, h1 _ h.atts, h1 _ h.md, fun y hy => h1 _ (h.mbws y hy), h1 _ h.ma⟩
 case la x => exact ⟨h1 _ h.bws, h1 _ h.td, fun t ht => h1 _ (h.reps t ht), h1 _ h.zones, by simp [Pst.app, wt]; exact h.atts, h1 _ h.md, fun y hy => h1 _ (h.mbws y hy), h1 _ h.ma⟩
 case ma x => exact ⟨h1 _ h.bws, h1 _ h.td, fun t ht => h1 _ (h.reps t ht), h1 _ h.zones, h1 _ h.atts, h1 _ h.md, fun y hy => h1 _ (h.mbws y hy), by simp [Pst.app, wt]; exact h.ma⟩
 case lz zs => exact ⟨h1 _ h.bws, h1 _ h.td, fun t ht => h1 _ (h.reps t ht), by have := h.zones; simp [Pst.app, wt]; omega, h1 _ h.atts, h1 _ h.md, fun y hy => h1 _ (h.mbws y hy), h1 _ h.ma⟩
 case lt x =>
  refine ⟨h1 _ h.bws, ?_, fun t ht => ?_, h1 _ h.zones, h1 _ h.atts, h1 _ h.md, fun y hy => h1 _ (h.mbws y hy), h1 _ h.ma⟩
  · have := h.td
    cases hc : q.tc <;> simp [Pst.app, wt, hc] <;> omega
  · simp [Pst.app] at ht
    subst ht; simp
 case lr r =>
  refine ⟨h1 _ h.bws, h1 _ h.td, fun t ht => ?_, h1 _ h.zones, h1 _ h.atts, h1 _ h.md, fun y hy => h1 _ (h.mbws y hy), h1 _ h.ma⟩
  cases hc : q.tc with
  | none => simp [Pst.app, hc] at ht
  | some t0 =>
   simp [Pst.app, hc] at ht
   subst ht
   have := h.reps t0 hc
   simp [wt]; exact this
 case lm m =>
  cases hc : q.mc with
  | none =>
   have e : q.app (.lm m) = { q with mc := some (med0 m) } := by simp [Pst.app, hc]
   rw [e]
   exact ⟨h1 _ h.bws, h1 _ h.td, fun t ht => h1 _ (h.reps t ht), h1 _ h.zones, h1 _ h.atts, h1 _ h.md, fun y hy => by obtain rfl := Option.some.inj hy; simp [med0], h1 _ h.ma⟩
  | some y0 =>
   have e : q.app (.lm m) = { q with md := q.md ++ [{ y0 with atts := q.ma }], mc := some (med0 m), ma := [] } := by simp [Pst.app, hc]
   rw [e]
   exact ⟨h1 _ h.bws, h1 _ h.td, fun t ht => h1 _ (h.reps t ht), h1 _ h.zones, h1 _ h.atts, by have := h.md; simp [wt]; exact this, fun y hy => by obtain rfl := Option.some.inj hy; simp [med0], by simp⟩
 case mb x =>
  refine ⟨h1 _ h.bws, h1 _ h.td, fun t ht => h1 _ (h.reps t ht), h1 _ h.zones, h1 _ h.atts, h1 _ h.md, fun y hy => ?_, h1 _ h.ma⟩
  cases hc : q.mc with
  | none => simp [Pst.app, hc] at hy
  | some y0 =>
   simp [Pst.app, hc] at hy
   subst hy
   have := h.mbws y0 hc
   simp [wt]; exact this
 case mi x =>
  refine ⟨h1 _ h.bws, h1 _ h.td, fun t ht => h1 _ (h.reps t ht), h1 _ h.zones, h1 _ h.atts, h1 _ h.md, fun y hy => ?_, h1 _ h.ma⟩
  cases hc : q.mc with
  | none => simp [Pst.app, hc] at hy
  | some y0 => simp [Pst.app, hc] at hy; subst hy; exact h1 _ (h.mbws y0 hc)
 case mc x =>
  refine ⟨h1 _ h.bws, h1 _ h.td, fun t ht => h1 _ (h.reps t ht), h1 _ h.zones, h1 _ h.atts, h1 _ h.md, fun y hy => ?_, h1 _ h.ma⟩
  cases hc : q.mc with
  | none => simp [Pst.app, hc] at hy
  | some y0 => simp [Pst.app, hc] at hy; subst hy; exact h1 _ (h.mbws y0 hc)
 case mkey x =>
  refine ⟨h1 _ h.bws, h1 _ h.td, fun t ht => h1 _ (h.reps t ht), h1 _ h.zones, h1 _ h.atts, h1 _ h.md, fun y hy => ?_, h1 _ h.ma⟩
  cases hc : q.mc with
  | none => simp [Pst.app, hc] at hy
  | some y0 => simp [Pst.app, hc] at hy; subst hy; exact h1 _ (h.mbws y0 hc)
 all_goals exact ⟨h1 _ h.bws, h1 _ h.td, fun t ht => h1 _ (h.reps t ht), h1 _ h.zones, h1 _ h.atts, h1 _ h.md, fun y hy => h1 _ (h.mbws y hy), h1 _ h.ma⟩
structure SsnBig (x : Ssn) : Prop where
 id : 0 ≤ x.org.id ∧ x.org.id < 18446744073709551616
 ver : 0 ≤ x.org.ver ∧ x.org.ver < 18446744073709551616
 bws : ∀ b ∈ x.bws, bigStr b.ty ∧ 0 ≤ b.n
 times : ∀ t ∈ x.times, 0 ≤ t.start ∧ 0 ≤ t.stop
 zones : ∀ z ∈ x.zones, 0 ≤ z.time
 media : ∀ m ∈ x.media, bigStr m.name ∧ (∀ y ∈ m.fmts, bigStr y) ∧ ∀ b ∈ m.bws, bigStr b.ty ∧ 0 ≤ b.n
theorem one_ok {xs : List ByteArray} (h : one xs = true) : xs.length ≤ 1 ∧ ∀ x ∈ xs, line x = true := by
 match xs, h with
 | [], _ => simp
 | [x], h => exact ⟨by simp, fun y hy => by rw [List.mem_singleton.1 hy]; exact h⟩
theorem con_ok {xs : List Con} (h : consOk xs = true) : xs.length ≤ 1 ∧ ∀ x ∈ xs, conHead x = true := by
 match xs, h with
 | [], _ => simp
 | [x], h => exact ⟨by simp, fun y hy => by rw [List.mem_singleton.1 hy]; exact h⟩
theorem bws_ok {xs : List Bwd} (h : bwsOk xs = true) : xs.length ≤ 10 ∧ ∀ x ∈ xs, bwB x = true := by
 unfold bwsOk at h
 rw [Bool.and_eq_true, List.all_eq_true] at h
 exact ⟨by simpa using h.2, h.1⟩
theorem atts_ok {xs : List Att} (h : attsOk xs = true) : xs.length ≤ 20 ∧ ∀ x ∈ xs, attB x = true := by
 unfold attsOk at h
 rw [Bool.and_eq_true, List.all_eq_true] at h
 exact ⟨by simpa using h.2, h.1⟩
theorem med_parts {m : Med} (h : medB m = true) : one m.title = true ∧ consOk m.conn = true ∧ bwsOk m.bws = true ∧ one m.key = true ∧ attsOk m.atts = true := by
 unfold medB medTail at h
 simp only [Bool.and_eq_true] at h
 exact ⟨h.2.2.2.2.1, h.2.2.2.2.2.1, h.2.2.2.2.2.2.1, h.2.2.2.2.2.2.2.1, h.2.2.2.2.2.2.2.2⟩
theorem allLn_map {α : Type} {f : α → Ln} {xs : List α} (h : ∀ x ∈ xs, LnOk (f x)) : ∀ l ∈ xs.map f, LnOk l := fun l hl => by
 obtain ⟨x, hx, rfl⟩ := List.mem_map.1 hl
 exact h x hx
theorem allLn_app {a b : List Ln} (h : ∀ l ∈ a, LnOk l) (k : ∀ l ∈ b, LnOk l) : ∀ l ∈ a ++ b, LnOk l := fun l hl => (List.mem_append.1 hl).elim (h l) (k l)
theorem allLn_cons {a : Ln} {b : List Ln} (h : LnOk a) (k : ∀ l ∈ b, LnOk l) : ∀ l ∈ a :: b, LnOk l := fun l hl => (List.mem_cons.1 hl).elim (fun e => e ▸ h) (k l)
theorem med_ok {m : Med} (h : medB m = true) (hb : bigStr m.name ∧ (∀ y ∈ m.fmts, bigStr y) ∧ ∀ b ∈ m.bws, bigStr b.ty ∧ 0 ≤ b.n) : (∀ l ∈ medLns m, LnOk l) ∧ wts (medLns m) ≤ 34 ∧ Pst.MedOne m := by
 obtain ⟨h1, h2, h3, h4, h5⟩ := med_parts h
 have a1 := one_ok h1
 have a2 := con_ok h2
 have a3 := bws_ok h3
 have a4 := one_ok h4
 have a5 := atts_ok h5
 unfold medLns
 refine ⟨allLn_cons ⟨h, hb.1, hb.2.1⟩ (allLn_app (allLn_map a1.2) (allLn_app (allLn_map a2.2) (allLn_app (allLn_map (fun b hb' => ⟨a3.2 b hb', hb.2.2 b hb'⟩)) (allLn_app (allLn_map a4.2) (allLn_map a5.2))))), ?_, a1.1, a2.1, a4.1⟩
 rw [wts_cons, wts_append, wts_append, wts_append, wts_append, wts_map (fun _ => rfl), wts_map (fun _ => rfl), wts_map (fun _ => rfl), wts_map (fun _ => rfl), wts_map (fun _ => rfl)]
 have : wt (.lm m) = 1 := rfl
 omega
theorem lns_ok {x : Ssn} (h : proper x = true) (hb : SsnBig x) : (∀ l ∈ lns x, LnOk l) ∧ wts (lns x) ≤ 1000 ∧ SsnOne x ∧ 0 < x.times.length ∧ x.ver = 0 := by
 unfold proper proHead proTail at h
 simp only [Bool.and_eq_true] at h
 obtain ⟨⟨v0, v1, v2, v3, v4, v5, v6, v7, v8⟩, z, md, t1, t2, t3, t4, t5, t6, t7, t8⟩ := h
 have a1 := one_ok t1
 have a2 := one_ok t2
 have a3 := one_ok t3
 have a4 := one_ok t4
 have a5 := con_ok t5
 have a6 := bws_ok t6
 have a7 := one_ok t7
 have a8 := atts_ok t8
 unfold timesOk at v6
 simp only [Bool.and_eq_true, List.all_eq_true, decide_eq_true_eq] at v6 v7 v8
 have hz := List.all_eq_true.1 z
 have hmd := List.all_eq_true.1 md
 have ht : ∀ t ∈ x.times, (∀ l ∈ timLns t, LnOk l) ∧ wts (timLns t) ≤ 6 := fun t htm => by
  have h1 := v6.1 t htm
  unfold timB at h1
  simp only [Bool.and_eq_true, List.all_eq_true, decide_eq_true_eq] at h1
  have h2 := hb.times t htm
  unfold timLns
  refine ⟨allLn_cons ⟨⟨h2.1, by omega⟩, h2.2, by omega⟩ (allLn_map (fun r hr => h1.2 r hr)), ?_⟩
  rw [wts_cons, wts_map (fun _ => rfl)]
  have : wt (.lt t) = 1 := rfl
  omega
 have hm : ∀ m ∈ x.media, _ := fun m hm => med_ok (hmd m hm) (hb.media m hm)
 refine ⟨?_, ?_, ⟨a1.1, a2.1, a3.1, a4.1, a5.1, a7.1, fun m hx => (hm m hx).2.2⟩, by omega, by simpa using v0⟩
 · unfold lns
   refine allLn_cons trivial (allLn_cons ⟨v1, hb.id, hb.ver, inT_of v2, v3, v4⟩ (allLn_cons v5 (allLn_app (allLn_map a1.2) (allLn_app (allLn_map a2.2) (allLn_app (allLn_map a3.2) (allLn_app (allLn_map a4.2) (allLn_app (allLn_map a5.2) (allLn_app (allLn_map (fun b hb' => ⟨a6.2 b hb', hb.bws b hb'⟩)) (allLn_app ?_ (allLn_app ?_ (allLn_app (allLn_map a7.2) (allLn_app (allLn_map a8.2) ?_))))))))))))
   · intro l hl
     obtain ⟨t, ht1, ht2⟩ := List.mem_flatMap.1 hl
     exact (ht t ht1).1 l ht2
   · split
     · intro l hl; simp at hl
     · rename_i h0
       intro l hl
       rw [List.mem_singleton.1 hl]
       exact ⟨fun e => h0 (by rw [e]; rfl), v7, fun y hy => ⟨hz y hy, hb.zones y hy⟩⟩
   · intro l hl
     obtain ⟨m, hm1, hm2⟩ := List.mem_flatMap.1 hl
     exact (hm m hm1).1 l hm2
 · have e1 := wts_flat x.times (fun t h => (ht t h).2)
   have e2 := wts_flat x.media (fun m h => (hm m h).2.1)
   have e3 : wts (if x.zones.length = 0 then [] else [Ln.lz x.zones]) ≤ 6 := by
    split
    · simp [wts]
    · simp [wts, wt]; omega
   unfold lns
   rw [wts_cons, wts_cons, wts_cons, wts_append, wts_append, wts_append, wts_append, wts_append, wts_append, wts_append, wts_append, wts_append, wts_append,
    wts_map (fun _ => rfl), wts_map (fun _ => rfl), wts_map (fun _ => rfl), wts_map (fun _ => rfl), wts_map (fun _ => rfl), wts_map (fun _ => rfl), wts_map (fun _ => rfl), wts_map (fun _ => rfl)]
   have k1 : wt Ln.lv = 1 := rfl
   have k2 : wt (.lo x.org) = 1 := rfl
   have k3 : wt (.ls x.name) = 1 := rfl
   have k4 : x.times.length * 6 ≤ 5 * 6 := Nat.mul_le_mul_right _ v6.2.2
   have k5 : x.media.length * 34 ≤ 5 * 34 := Nat.mul_le_mul_right _ v8
   omega
end Go.Proofs.YtcepdjlknalmnaaGreatDoor

/- Laws of this claim. -/
import Derived.Test.YtcepdjlknalmnaaGreatDoorTrm
import Derived.Test.YtcepdjlknalmnaaGreatDoorPlg
set_option linter.unusedSimpArgs false
set_option linter.unusedVariables false
namespace Go.Proofs.YtcepdjlknalmnaaGreatDoor
open Tryz
open List (length_append length_cons length_nil mem_cons all_eq_true mem_map)
open Go.RowKit
def big : Nat := 2147483647
def qQs (a : Adr) : Prop := a.addr.size <= big /\ a.ttl.length <= big /\ a.rng.length <= big
def qJl (c : Con) : Prop := c.net.size <= big /\ c.addr.size <= big /\ ∀ a ∈ c.adrs, qQs a
def LnFit : Ln -> Prop
 | .lv => True
 | .lo o => o.user.size <= big /\ o.net.size <= big /\ o.addr.size <= big /\ o.adr.size <= big /\ qAg .u64 o.id /\ qAg .u64 o.ver
 | .ls x => x.size <= big
 | .li x => x.size <= big
 | .lu x => x.size <= big
 | .le x => x.size <= big
 | .lp x => x.size <= big
 | .lc c => qJl c
 | .lb b => b.ty.size <= big /\ qAg .u64 b.n
 | .lt t => qAg .u64 t.start /\ qAg .u64 t.stop
 | .lr r => qAg .i64 r.ivl /\ qAg .i64 r.dur /\ ∀ o ∈ r.offs, qAg .i64 o
 | .lz zs => ∀ z ∈ zs, qAg .u64 z.time /\ qAg .i64 z.off
 | .lk x => x.size <= big
 | .la a => a.key.size <= big /\ a.val.size <= big
 | .lm m => m.name.size <= big /\ (∀ x ∈ m.protos, x.size <= big) /\ (∀ x ∈ m.fmts, x.size <= big) /\ m.ports.length <= big
 | .mi x => x.size <= big
 | .mc c => qJl c
 | .mb b => b.ty.size <= big /\ qAg .u64 b.n
 | .mkey x => x.size <= big
 | .ma a => a.key.size <= big /\ a.val.size <= big
theorem qH1 {α : Type} {f : α -> List UInt8} {n : Nat} : ∀ (xs : List α), (∀ x ∈ xs, (f x).length <= n) -> (xs.flatMap f).length <= xs.length * n
 | [], _ => by simp
 | a :: xs, h => by
  rw [List.flatMap_cons, length_append, length_cons, Nat.succ_mul]
  have h1 := h a List.mem_cons_self
  have h2 := qH1 xs (fun x hx => h x (List.mem_cons_of_mem _ hx))
  omega
theorem qJ5 {sep : List UInt8} {n : Nat} : ∀ (xs : List ByteArray), (∀ x ∈ xs, x.size <= n) -> (qAk sep xs).length <= xs.length * (n + sep.length)
 | [], _ => by simp [qAk]
 | a :: xs, h => by
  have h1 := h a List.mem_cons_self
  have h2 := qH1 (f := fun y => sep ++ bs y) (n := n + sep.length) xs (fun x hx => by
   have := h x (List.mem_cons_of_mem _ hx)
   simp only [length_append, qC4]; omega)
  simp only [qAk, length_append, qC4, length_cons, Nat.succ_mul]
  omega
theorem dec20 (n : Int) : (Lib.decDigits (Int.toNat (n % 18446744073709551616))).length <= 20 := by
 have := qDf (u := (Int.toNat (n % 18446744073709551616))) (by omega)
 rwa [qAy] at this
theorem decu {n : Int} (h : qAg .u64 n) : ((Lib.decDigits (Int.toNat n))).length <= 20 := by have := qFh h; rwa [qAy] at this
theorem sgni {n : Int} (h : qAg .i64 n) : ((Lib.itoa n)).length <= 21 := by have := qE6 h; rwa [qAy] at this
theorem qM1 (l : List Int) : (qAx l).length <= l.length * 21 := qH1 l (fun n _ => by
 have := dec20 n
 simp only [length_append, length_cons, length_nil]; omega)
theorem qQt {c : Con} (h : qDh c = true) (hf : qJl c) : (qD7 c).length <= 90000000000 := by
 unfold qDh at h
 simp only [Bool.and_eq_true] at h
 have h2 := h.2.2
 split at h2
 · rename_i y he
   obtain ⟨a1, a2, a3⟩ := hf
   have hy := a3 y (by rw [he]; exact List.mem_cons_self)
   obtain ⟨b1, b2, b3⟩ := hy
   have hn := qM1 (y.ttl ++ y.rng)
   simp only [Bool.and_eq_true, decide_eq_true_eq] at h2
   have c1 := h2.2.1
   have c2 := h2.2.2.1
   clear h2
   unfold big at *
   simp only [length_append] at hn
   simp only [qD7, he, qKa, List.flatMap_cons, List.flatMap_nil, length_append, length_cons, length_nil, qC4]
   omega
 cases h2
theorem bw_len {b : Bwd} (h1 : b.ty.size <= 2147483647) (h2 : qAg .u64 b.n) : (qF8 b).length <= 10000000000 := by
 have := decu h2
 unfold qF8
 split <;> simp only [length_append, length_cons, length_nil, qC4] <;> omega
theorem qQu {a : Att} (h1 : a.key.size <= 2147483647) (h2 : a.val.size <= 2147483647) : (qC1 a).length <= 10000000000 := by
 unfold qC1
 split <;> simp only [length_append, length_cons, length_nil, qC4] <;> omega
theorem qM2 {l : Ln} (h : qJ0 l) (hf : LnFit l) : l.text.length <= 100000000000 := by
 unfold Ln.text
 simp only [length_cons]
 have B : big = 2147483647 := rfl
 cases l <;> simp only [Ln.body, LnFit, qJ0, B, qC4, length_append, length_cons, length_nil] at *
 case lo o =>
  have h1 := decu hf.2.2.2.2.1
  have h2 := decu hf.2.2.2.2.2
  omega
 case lc c => have := qQt h hf; omega
 case mc c => have := qQt h hf; omega
 case lb b => have := bw_len hf.1 hf.2; omega
 case mb b => have := bw_len hf.1 hf.2; omega
 case lt t =>
  have h1 := decu hf.1
  have h2 := decu hf.2
  omega
 case lr r =>
  have h1 := sgni hf.1
  have h2 := sgni hf.2.1
  have h3 : (qBt r.offs).length <= r.offs.length * 22 := qH1 r.offs (fun o ho => by
   have := sgni (hf.2.2 o ho)
   simp only [length_append, length_cons, length_nil]; omega)
  unfold qJq at h
  simp only [Bool.and_eq_true, decide_eq_true_eq] at h
  have h4 := h.1.2.2.2.2.2
  omega
 case lz zs =>
  have h1 := qJ5 (sep := [32]) (n := 21) ((qBq zs).map mk) (fun x hx => by
   obtain ⟨l, hl, rfl⟩ := List.mem_map.1 hx
   obtain ⟨z, hz, hl⟩ := List.mem_flatMap.1 hl
   rw [qAy]
   have a1 := decu (hf z hz).1
   have a2 := sgni (hf z hz).2
   simp only [mem_cons, List.not_mem_nil, or_false] at hl
   rcases hl with rfl | rfl <;> omega)
  have h2 : ∀ l : List Zon, (qBq l).length = 2 * l.length := fun l => by
   induction l with
   | nil => rfl
   | cons a l ih => unfold qBq at ih ⊢; rw [List.flatMap_cons, length_append, ih]; simp; omega
  rw [List.length_map, h2] at h1
  have h3 := h.2.1
  simp only [length_cons, length_nil] at h1
  omega
 case la a => have := qQu hf.1 hf.2; omega
 case ma a => have := qQu hf.1 hf.2; omega
 case lm m =>
  obtain ⟨a1, a2, a3, a4⟩ := hf
  have hh := h.1
  unfold qIw qCf at hh
  simp only [Bool.and_eq_true, decide_eq_true_eq] at hh
  have b1 := hh.1.2.2.2.2.2.1
  have b2 := hh.1.2.2.2.2.2.2.2
  have h1 := qJ5 (sep := [47]) m.protos a2
  have h2 := qJ5 (sep := [32]) m.fmts a3
  have h3 := qM1 m.ports
  have h4 := dec20 m.port
  simp only [qCo, length_append, length_cons, length_nil] at *
  omega
 all_goals omega
theorem Ty.Sl_mem {α : Type} {T : Ty α} {w : World} {xs : List α} {v : Value} (h : T.Sl w xs v) : ∀ x ∈ xs, ∃ cs, T.rel w x cs := fun x hx => by
 obtain ⟨i, hi, rfl⟩ := List.getElem_of_mem hx
 rcases h.2 with ⟨rfl, _⟩ | ⟨_, b, o, c, _, _, ha⟩
 · simp at hi
 obtain ⟨cs, hr, _⟩ := ha i _ (List.getElem?_eq_getElem hi)
 exact ⟨cs, hr⟩
theorem fit3 {xs : List ByteArray} (h : qFl xs = true) : ∀ x ∈ xs, x.size <= big := fun x hx => by
 unfold qFl at h
 simp only [Bool.and_eq_true, all_eq_true] at h
 have := h.2 x hx
 unfold qDl at this
 simpa [big] using this
theorem fit4 {xs : List Con} (h : qHy xs = true) : ∀ c ∈ xs, qJl c := fun c hc => by
 unfold qHy at h
 simp only [Bool.and_eq_true, all_eq_true] at h
 have := h.2 c hc
 unfold qH4 qKb at this
 simp only [Bool.and_eq_true, all_eq_true] at this
 obtain ⟨a1, a2, a3, a4⟩ := this
 unfold qDl at a1 a2
 refine ⟨by simpa [big] using a1, by simpa [big] using a2, fun a ha => ?_⟩
 have h5 := a4 a ha
 unfold qIy qDl qCs at h5
 simpa [big, qQs] using h5
theorem fit8 {xs : List Bwd} (h : qHz xs = true) : ∀ b ∈ xs, b.ty.size <= big := fun b hb => by
 unfold qHz at h
 simp only [Bool.and_eq_true, all_eq_true] at h
 have := h.2 b hb
 unfold qIz qDl at this
 simpa [big] using this
theorem fit14 {xs : List Att} (h : qFg xs = true) : ∀ a ∈ xs, a.key.size <= big /\ a.val.size <= big := fun a ha => by
 unfold qFg at h
 simp only [Bool.and_eq_true, all_eq_true] at h
 have := h.2 a ha
 unfold qGa qDl at this
 simpa [big] using this
theorem bwd_wf {w : World} {xs : List Bwd} {v : Value} (h : qBx.Sl w xs v) : ∀ b ∈ xs, qAg .u64 b.n := fun b hb => by
 obtain ⟨cs, _, _, h⟩ := Ty.Sl_mem h b hb
 exact h
theorem qIr {n : Int} (h : qAg .u64 n) : 0 <= n /\ n < 18446744073709551616 := by
 have := qGu h
 omega
theorem qGp {x : Ssn} {w : World} {v0 v1 v2 v3 v4 v5 v6 v7 v8 v9 v10 : Value} (m : SsnAt w x v0 v1 v2 v3 v4 v5 v6 v7 v8 v9 v10) (hf : qDd x = true) : SsnBig x /\ (∀ l ∈ lns x, LnFit l) := by
 unfold qDd at hf
 simp only [Bool.and_eq_true] at hf
 obtain ⟨f0, f1, f2, f3, f4, f5, f6, f7, f8, f9, f10, f11, f12⟩ := hf
 have fo : x.org.user.size <= big /\ x.org.net.size <= big /\ x.org.addr.size <= big /\ x.org.adr.size <= big := by
  unfold fitB2 qDl at f0; simpa [big] using f0
 have fn : x.name.size <= big := by unfold qDl at f1; simpa [big] using f1
 have ht : ∀ t ∈ x.times, qAg .u64 t.start /\ qAg .u64 t.stop /\ ∀ r ∈ t.reps, qAg .i64 r.ivl /\ qAg .i64 r.dur /\ ∀ o ∈ r.offs, qAg .i64 o := fun t ht => by
  obtain ⟨cs, v, _, h1, h2, h3⟩ := Ty.Sl_mem m.times t ht
  refine ⟨h1, h2, fun r hr => ?_⟩
  obtain ⟨cs, v, _, h4, h5, h6⟩ := Ty.Sl_mem h3 r hr
  refine ⟨h4, h5, fun o ho => ?_⟩
  obtain ⟨cs, _, h7⟩ := Ty.Sl_mem h6 o ho
  exact h7
 have hz : ∀ z ∈ x.zones, qAg .u64 z.time /\ qAg .i64 z.off := fun z hz => by
  obtain ⟨cs, _, h1, h2⟩ := Ty.Sl_mem m.zones z hz
  exact ⟨h1, h2⟩
 have hm : ∀ y ∈ x.media, (y.name.size <= big /\ y.ports.length <= big /\ (∀ s ∈ y.protos, s.size <= big) /\ (∀ s ∈ y.fmts, s.size <= big) /\ (∀ s ∈ y.title, s.size <= big) /\ (∀ c ∈ y.conn, qJl c) /\ (∀ b ∈ y.bws, b.ty.size <= big /\ qAg .u64 b.n) /\ (∀ s ∈ y.key, s.size <= big) /\ ∀ a ∈ y.atts, a.key.size <= big /\ a.val.size <= big) := fun y hy => by
  unfold qGr at f12
  simp only [Bool.and_eq_true, all_eq_true] at f12
  have h := f12.2 y hy
  unfold qC3 at h
  simp only [Bool.and_eq_true] at h
  obtain ⟨g0, g1, g2, g3, g4, g5, g6, g7, g8⟩ := h
  obtain ⟨cs, u0, u1, u2, u3, u4, u5, u6, u7, _, mm⟩ := Ty.Sl_mem m.media y hy
  unfold qDl at g0
  unfold qCs at g1
  exact ⟨by simpa [big] using g0, by simpa [big] using g1, fit3 g2, fit3 g3, fit3 g4, fit4 g5, fun b hb => ⟨fit8 g6 b hb, bwd_wf mm.bws b hb⟩, fit3 g7, fit14 g8⟩
 have hb : ∀ b ∈ x.bws, b.ty.size <= big /\ qAg .u64 b.n := fun b hb => ⟨fit8 f7 b hb, bwd_wf m.bws b hb⟩
 have h2 := fit3 f2
 have h3 := fit3 f3
 have h4 := fit3 f4
 have h5 := fit3 f5
 have h6 := fit4 f6
 have h10 := fit3 f10
 have h11 := fit14 f11
 refine ⟨⟨qIr m.oid, qIr m.over, fun b k => ⟨(hb b k).1, (qIr (hb b k).2).1⟩, fun t k => ⟨(qIr (ht t k).1).1, (qIr (ht t k).2.1).1⟩, fun z k => (qIr (hz z k).1).1, fun y k => ⟨(hm y k).1, (hm y k).2.2.2.1, fun b kb => ⟨((hm y k).2.2.2.2.2.2.1 b kb).1, (qIr ((hm y k).2.2.2.2.2.2.1 b kb).2).1⟩⟩⟩, ?_⟩
 intro l hl
 simp only [lns, mem_cons, List.mem_append, mem_map, List.mem_flatMap] at hl
 rcases hl with rfl | rfl | rfl | ⟨y, hy, rfl⟩ | ⟨y, hy, rfl⟩ | ⟨y, hy, rfl⟩ | ⟨y, hy, rfl⟩ | ⟨y, hy, rfl⟩ | ⟨y, hy, rfl⟩ | ⟨t, k, hl⟩ | hl | ⟨y, hy, rfl⟩ | ⟨y, hy, rfl⟩ | ⟨y, k, hl⟩
 · exact trivial
 · exact ⟨fo.1, fo.2.1, fo.2.2.1, fo.2.2.2, m.oid, m.over⟩
 · exact fn
 · exact h2 y hy
 · exact h3 y hy
 · exact h4 y hy
 · exact h5 y hy
 · exact h6 y hy
 · exact hb y hy
 · simp only [qBl, mem_cons, mem_map] at hl
   rcases hl with rfl | ⟨r, hr, rfl⟩
   · exact ⟨(ht t k).1, (ht t k).2.1⟩
   exact (ht t k).2.2 r hr
 · split at hl
   · cases hl
   obtain rfl := List.mem_singleton.1 hl
   exact hz
 · exact h10 y hy
 · exact h11 y hy
 obtain ⟨g0, g1, g2, g3, g4, g5, g6, g7, g8⟩ := hm y k
 simp only [qBn, mem_cons, List.mem_append, mem_map] at hl
 rcases hl with rfl | ⟨z, kz, rfl⟩ | ⟨z, kz, rfl⟩ | ⟨z, kz, rfl⟩ | ⟨z, kz, rfl⟩ | ⟨z, kz, rfl⟩
 · exact ⟨g0, g2, g3, g1⟩
 · exact g4 z kz
 · exact g5 z kz
 · exact g6 z kz
 · exact g7 z kz
 exact g8 z kz
theorem qL6 (ls : List Ln) : ls.length <= wts ls := by
 induction ls with
 | nil => simp [wts]
 | cons a ls ih =>
  have h : 1 <= wt a := by cases a <;> simp [wt]
  rw [qEe, length_cons]
  omega
theorem qQv {x : Ssn} {w : World} {v0 v1 v2 v3 v4 v5 v6 v7 v8 v9 v10 : Value} (m : SsnAt w x v0 v1 v2 v3 v4 v5 v6 v7 v8 v9 v10) (hf : qDd x = true) (hp : qC5 x = true) : Lns (qCw x) := by
 obtain ⟨h1, h2⟩ := qGp m hf
 obtain ⟨h3, h4, h5, h6, h7⟩ := qG0 hp h1
 rw [<- qGv x h7]
 have hw := qL6 (lns x)
 refine ⟨by rw [List.length_map]; omega, fun t ht => ?_⟩
 obtain ⟨l, hl, rfl⟩ := List.mem_map.1 ht
 have := qM2 (h3 l hl) (h2 l hl)
 unfold qBj
 omega
theorem con_sz {xs : List Con} (h : ∀ c ∈ xs, qJl c) : qI0 xs := fun c hc a ha => by
 have := (h c hc).2.2 a ha
 unfold qQs big at this
 omega
theorem qB8 {x : Ssn} (hf : qDd x = true) : qI0 x.conn /\ (∀ y ∈ x.media, qI0 y.conn) /\ x.zones.length <= 2147483647 ∧
 (x.conn.length <= 2147483647 /\ x.bws.length <= 2147483647 /\ x.atts.length <= 2147483647 /\ x.times.length <= 2147483647 /\ x.zones.length <= 2147483647 /\ x.media.length <= 2147483647) /\ (∀ c ∈ x.conn, c.adrs.length <= 2147483647) /\ (∀ t ∈ x.times, t.reps.length <= 2147483647) ∧
 (∀ y ∈ x.media, y.conn.length <= 2147483647 /\ y.bws.length <= 2147483647 /\ y.atts.length <= 2147483647 /\ ∀ c ∈ y.conn, c.adrs.length <= 2147483647) := by
 unfold qDd at hf
 simp only [Bool.and_eq_true] at hf
 obtain ⟨f0, f1, f2, f3, f4, f5, f6, f7, f8, f9, f10, f11, f12⟩ := hf
 have L4 : ∀ {xs : List Con}, qHy xs = true -> xs.length <= 2147483647 /\ ∀ c ∈ xs, c.adrs.length <= 2147483647 := fun {xs} h => by
  unfold qHy qCs qH4 qKb qCs at h
  simp only [Bool.and_eq_true, all_eq_true, decide_eq_true_eq] at h
  exact ⟨h.1, fun c hc => (h.2 c hc).2.2.1⟩
 have L8 : ∀ {xs : List Bwd}, qHz xs = true -> xs.length <= 2147483647 := fun {xs} h => by
  unfold qHz qCs at h
  simp only [Bool.and_eq_true, decide_eq_true_eq] at h
  exact h.1
 have L14 : ∀ {xs : List Att}, qFg xs = true -> xs.length <= 2147483647 := fun {xs} h => by
  unfold qFg qCs at h
  simp only [Bool.and_eq_true, decide_eq_true_eq] at h
  exact h.1
 have hz : x.zones.length <= 2147483647 := by unfold qCs at f9; simpa using f9
 have ht : x.times.length <= 2147483647 /\ ∀ t ∈ x.times, t.reps.length <= 2147483647 := by
  unfold qHk qFm qHj qCs at f8
  simp only [Bool.and_eq_true, all_eq_true, decide_eq_true_eq] at f8
  exact ⟨f8.1, fun t ht => (f8.2 t ht).1⟩
 unfold qGr qCs at f12
 simp only [Bool.and_eq_true, all_eq_true, decide_eq_true_eq] at f12
 have hm : ∀ y ∈ x.media, qHy y.conn = true /\ qHz y.bws = true /\ qFg y.atts = true := fun y hy => by
  have h := f12.2 y hy
  unfold qC3 at h
  simp only [Bool.and_eq_true] at h
  exact ⟨h.2.2.2.2.2.1, h.2.2.2.2.2.2.1, h.2.2.2.2.2.2.2.2⟩
 exact ⟨con_sz (fit4 f6), fun y hy => con_sz (fit4 (hm y hy).1), hz, ⟨(L4 f6).1, L8 f7, L14 f11, ht.1, hz, f12.1⟩, (L4 f6).2, ht.2, fun y hy => ⟨(L4 (hm y hy).1).1, L8 (hm y hy).2.1, L14 (hm y hy).2.2, (L4 (hm y hy).1).2⟩⟩
theorem plain_ok (x : Ssn) (hv : qAg .i64 x.ver)
 (hl : x.bws.length <= 2147483647 /\ x.atts.length <= 2147483647 /\ x.times.length <= 2147483647 /\ x.zones.length <= 2147483647 /\ x.media.length <= 2147483647) (hlt : ∀ t ∈ x.times, t.reps.length <= 2147483647 /\ ∀ r ∈ t.reps, r.offs.length <= 2147483647)
 (hlm : ∀ y ∈ x.media, y.protos.length <= 2147483647 /\ y.fmts.length <= 2147483647 /\ y.bws.length <= 2147483647 /\ y.atts.length <= 2147483647) : qIq x := by
 rintro D w ⟨i, u, e, p, c, b, t, z, k, a, m, hD, hm⟩
 exact qK9 x D w i u e p c b t z k a m hD hm hv hl hlt hlm
theorem qM3 {x : Ssn} (hf : qDd x = true) : (x.bws.length <= 2147483647 /\ x.atts.length <= 2147483647 /\ x.times.length <= 2147483647 /\ x.zones.length <= 2147483647 /\ x.media.length <= 2147483647) /\ (∀ t ∈ x.times, t.reps.length <= 2147483647 /\ ∀ r ∈ t.reps, r.offs.length <= 2147483647) ∧
 (∀ y ∈ x.media, y.protos.length <= 2147483647 /\ y.fmts.length <= 2147483647 /\ y.bws.length <= 2147483647 /\ y.atts.length <= 2147483647) := by
 obtain ⟨-, -, -, ⟨-, s1, s2, s3, s4, s5⟩, -, -, sm⟩ := qB8 hf
 unfold qDd at hf
 simp only [Bool.and_eq_true] at hf
 obtain ⟨f0, f1, f2, f3, f4, f5, f6, f7, f8, f9, f10, f11, f12⟩ := hf
 refine ⟨⟨s1, s2, s3, s4, s5⟩, fun t ht => ?_, fun y hy => ?_⟩
 · unfold qHk qFm qHj qF9 qCs at f8
   simp only [Bool.and_eq_true, all_eq_true, decide_eq_true_eq] at f8
   have h := f8.2 t ht
   exact ⟨h.1, fun r hr => h.2 r hr⟩
 obtain ⟨h1, h2, h3, h4⟩ := sm y hy
 unfold qGr qCs at f12
 simp only [Bool.and_eq_true, all_eq_true, decide_eq_true_eq] at f12
 have h := f12.2 y hy
 unfold qC3 at h
 simp only [Bool.and_eq_true] at h
 have g1 := h.2.2.1
 have g2 := h.2.2.2.1
 unfold qFl qCs at g1 g2
 simp only [Bool.and_eq_true, decide_eq_true_eq] at g1 g2
 exact ⟨g1.1, g2.1, h2, h3⟩
theorem qNx {x : Ssn} (hf : qDd x = true) : qIq (qE7 x) := by
 obtain ⟨h1, h2, h3⟩ := qM3 hf
 refine plain_ok (qE7 x) (by show qAg .i64 0; unfold qAg; decide) ⟨h1.1, h1.2.1, h1.2.2.1, h1.2.2.2.1, ?_⟩ h2 (fun y hy => ?_)
 · unfold qE7
   rw [List.length_map]
   exact h1.2.2.2.2
 unfold qE7 at hy
 obtain ⟨m, hm, rfl⟩ := List.mem_map.1 hy
 exact h3 m hm
theorem qQw {x : Ssn} {w0 : World} {v0 v1 v2 v3 v4 v5 v6 v7 v8 v9 v10 : Value} (m : SsnAt w0 x v0 v1 v2 v3 v4 v5 v6 v7 v8 v9 v10) (hf : qDd x = true) (hp : qC5 x = true)
 (w : World) (e tl : List UInt8) (a : Addr) (hs : (qAm e (qCw x) ++ tl).length <= qBj) (hE : Eof w a) (he : qI2 e) (htl : TlOk tl) :
 Calls prog 13 #[.string (mk (qAm e (qCw x) ++ tl))] w (qQr (qE7 x) tl w) := by
 obtain ⟨b1, b2⟩ := qGp m hf
 obtain ⟨h1, h2, h3, h4, h5⟩ := qG0 hp b1
 have ht := qGv x h5
 have hx := qMl x h3
 have hL : (qAm e (qCw x) ++ tl).length = (mk (qAm e (qCw x) ++ tl)).size := by rw [qAy]
 rw [<- hx]
 refine qG3 w (mk (qAm e (qCw x) ++ tl)) e tl (lns x) a ?_ hE he htl ?_ ?_ (qMm x h3 h4).1 (fun l hl => ⟨h1 l hl, step_ln l⟩) h2 (fun _ => by rw [hx]; exact qNx hf)
 · unfold qAb
   rw [<- hL]
   exact hs
 · rw [ht]
   intro i hi
   rw [Nat.zero_add]
   rfl
 rw [ht]
 exact hL
end Go.Proofs.YtcepdjlknalmnaaGreatDoor
/- The shortest description is read: works. Written by a small program of this claim's own (genwrk). -/
namespace Go.Proofs.YtcepdjlknalmnaaGreatDoor
open Tryz
open List (length_append length_cons length_nil mem_cons all_eq_true mem_map)
open Go.RowKit
attribute [local go_sem ↓] Go.wp_at_zero Go.wp_at_succ qF2
attribute [local go_sem] qB5 qCv
def least : ByteArray := ⟨#[118, 61, 48, 13, 10, 111, 61, 45, 32, 49, 32, 49, 32, 73, 78, 32, 73, 80, 52, 32, 97, 13, 10, 115, 61, 120, 13, 10, 116, 61, 48, 32, 48, 13, 10]⟩
def x0 : Ssn := ⟨0, ⟨⟨#[45]⟩, 1, 1, ⟨#[73, 78]⟩, ⟨#[73, 80, 52]⟩, ⟨#[97]⟩⟩, ⟨#[120]⟩, [], [], [], [], [], [], [⟨0, 0, []⟩], [], [], [], []⟩
theorem x0_plain : qIq x0 := by
 rintro D w ⟨i, u, e, p, c, b, t, z, k, a, m, hD, hm⟩
 refine qK9 x0 D w i u e p c b t z k a m hD hm (by unfold qAg; decide) ⟨by decide, by decide, by decide, by decide, by decide⟩ (fun t ht => ?_) (fun y hy => by cases hy)
 obtain rfl := List.mem_singleton.1 ht
 exact ⟨by decide, fun r hr => by cases hr⟩
theorem qLc : qC5 x0 = true := by decide +kernel
theorem x0_big : SsnBig x0 := ⟨by decide, by decide, fun b hb => (by cases hb), fun t ht => (by obtain rfl := List.mem_singleton.1 ht; decide), fun z hz => (by cases hz), fun m hm => (by cases hm)⟩
theorem x0_four : ∀ l ∈ lns x0, Four l := by
 intro l hl
 have e : lns x0 = [.lv, .lo x0.org, .ls x0.name, .lt ⟨0, 0, []⟩] := rfl
 rw [e] at hl
 simp only [mem_cons, List.not_mem_nil, or_false] at hl
 rcases hl with rfl | rfl | rfl | rfl <;> trivial
theorem qQx : qAm [13, 10] ((lns x0).map Ln.text) = bs least := by decide +kernel
theorem x0_fin : (Pst.zero.apps (lns x0)).fin = x0 := by
 obtain ⟨h1, h2, h3, h4, h5⟩ := qG0 qLc x0_big
 rw [qMl x0 h3]
 rfl
theorem qQy (w : World) (a : Addr) (hE : Eof w a) : Calls prog 12 #[] w fun e w' => e = .returned (.bool true) /\ Nw w w' := by
 have HC : Hid (∀ w : World, Eof w a -> Calls prog 13 #[.string least] w fun ed w' => ∃ cs : Array Value, ed = .returned (.tuple #[.agg cs, .bool true]) /\ Nw w w' /\ cs.size = 19 /\ cs.all (·.oneCell') = true /\ cs[7]? = some (.string ⟨#[120]⟩)) := Lib.hid (fun w hE => by
  obtain ⟨h1, h2, h3, h4, h5⟩ := qG0 qLc x0_big
  refine (qG3 w least [13, 10] [] (lns x0) a (by unfold qAb qBj; decide) hE (.inl rfl) (.inl rfl) ?_ ?_ (qMm x0 h3 h4).1 (fun l hl => ⟨h1 l hl, qIl l (x0_four l hl)⟩) h2 (fun _ => by rw [x0_fin]; exact x0_plain)).mono ?_
  · rw [List.append_nil, qQx]
    intro i hi
    rw [Nat.zero_add]
  · rw [List.append_nil, qQx, qC4]
  rintro ed w' ⟨hn, ⟨_, v, rfl, hv⟩ | ⟨h, _⟩⟩
  · rw [x0_fin] at hv
    obtain ⟨cs, rfl, hcs, hall⟩ := qLb hv.now
    refine ⟨cs, rfl, hn, hcs, hall, ?_⟩
    obtain ⟨v0, v1, v2, v3, v4, v5, v6, v7, v8, v9, v10, he, m⟩ := hv.now
    injection he with he
    rw [he]
    rfl
  exact absurd rfl h)
 unfold least at HC
 go_enter func12, ntmps12
 go_wp2_with (go_at_call 13; (with_reducible refine (HC.out _ hE).mono ?_); rintro ed w1 ⟨cs, rfl, hn, hcs, hall, h7⟩; have hst := qGo (Blk.made w1 [.int .i64 0, .string ⟨#[]⟩, .int .u64 0, .int .u64 0, .string ⟨#[]⟩, .string ⟨#[]⟩, .string ⟨#[]⟩, .string ⟨#[]⟩, .slice none 0 0, .slice none 0 0, .slice none 0 0, .slice none 0 0, .slice none 0 0, .slice none 0 0, .slice none 0 0, .slice none 0 0, .slice none 0 0, .slice none 0 0, .slice none 0 0] 33) rfl hcs hall; have hc7 := (qBp (l2 := cs.toList) (Blk.made w1 [.int .i64 0, .string ⟨#[]⟩, .int .u64 0, .int .u64 0, .string ⟨#[]⟩, .string ⟨#[]⟩, .string ⟨#[]⟩, .string ⟨#[]⟩, .slice none 0 0, .slice none 0 0, .slice none 0 0, .slice none 0 0, .slice none 0 0, .slice none 0 0, .slice none 0 0, .slice none 0 0, .slice none 0 0, .slice none 0 0, .slice none 0 0] 33)).cell 7 (by simpa using h7))
 go_ret
 exact ⟨rfl, (hn.alloc _).setRow hn.size _⟩
end Go.Proofs.YtcepdjlknalmnaaGreatDoor

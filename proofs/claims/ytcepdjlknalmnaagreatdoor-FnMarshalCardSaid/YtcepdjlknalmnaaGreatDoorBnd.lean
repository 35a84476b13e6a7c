/- The lines of a proper session are not too long. Plain laws. -/
import Derived.Test.YtcepdjlknalmnaaGreatDoorLks
namespace Go.Proofs.YtcepdjlknalmnaaGreatDoor
open Go.RowKit
set_option linter.unusedSimpArgs false
set_option linter.unusedVariables false
def big : Nat := 2147483647
def adrFit (a : Adr) : Prop := a.addr.size ≤ big ∧ a.ttl.length ≤ big ∧ a.rng.length ≤ big
def conFit (c : Con) : Prop := c.net.size ≤ big ∧ c.addr.size ≤ big ∧ ∀ a ∈ c.adrs, adrFit a
def LnFit : Ln → Prop
 | .lv => True
 | .lo o => o.user.size ≤ big ∧ o.net.size ≤ big ∧ o.addr.size ≤ big ∧ o.adr.size ≤ big ∧ WfInt .u64 o.id ∧ WfInt .u64 o.ver
 | .ls x => x.size ≤ big
 | .li x => x.size ≤ big
 | .lu x => x.size ≤ big
 | .le x => x.size ≤ big
 | .lp x => x.size ≤ big
 | .lc c => conFit c
 | .lb b => b.ty.size ≤ big ∧ WfInt .u64 b.n
 | .lt t => WfInt .u64 t.start ∧ WfInt .u64 t.stop
 | .lr r => WfInt .i64 r.ivl ∧ WfInt .i64 r.dur ∧ ∀ o ∈ r.offs, WfInt .i64 o
 | .lz zs => ∀ z ∈ zs, WfInt .u64 z.time ∧ WfInt .i64 z.off
 | .lk x => x.size ≤ big
 | .la a => a.key.size ≤ big ∧ a.val.size ≤ big
 | .lm m => m.name.size ≤ big ∧ (∀ x ∈ m.protos, x.size ≤ big) ∧ (∀ x ∈ m.fmts, x.size ≤ big) ∧ m.ports.length ≤ big
 | .mi x => x.size ≤ big
 | .mc c => conFit c
 | .mb b => b.ty.size ≤ big ∧ WfInt .u64 b.n
 | .mkey x => x.size ≤ big
 | .ma a => a.key.size ≤ big ∧ a.val.size ≤ big
theorem flat_len {α : Type} {f : α → List UInt8} {n : Nat} : ∀ (xs : List α), (∀ x ∈ xs, (f x).length ≤ n) → (xs.flatMap f).length ≤ xs.length * n
 | [], _ => by simp
 | a :: xs, h => by
  rw [List.flatMap_cons, List.length_append, List.length_cons, Nat.succ_mul]
  have h1 := h a List.mem_cons_self
  have h2 := flat_len xs (fun x hx => h x (List.mem_cons_of_mem _ hx))
  omega
theorem join_len {sep : List UInt8} {n : Nat} : ∀ (xs : List ByteArray), (∀ x ∈ xs, x.size ≤ n) → (joinB sep xs).length ≤ xs.length * (n + sep.length)
 | [], _ => by simp [joinB]
 | a :: xs, h => by
  have h1 := h a List.mem_cons_self
  have h2 := flat_len (f := fun y => sep ++ bs y) (n := n + sep.length) xs (fun x hx => by
   have := h x (List.mem_cons_of_mem _ hx)
   simp only [List.length_append, bs_len]; omega)
  simp only [joinB, List.length_append, bs_len, List.length_cons, Nat.succ_mul]
  omega
theorem dec20 (n : Int) : (Lib.decDigits (Int.toNat (n % 18446744073709551616))).length ≤ 20 := by
 have := dec_len (u := (Int.toNat (n % 18446744073709551616))) (by omega)
 rwa [mk_size] at this
theorem decu {n : Int} (h : WfInt .u64 n) : ((Lib.decDigits (Int.toNat n))).length ≤ 20 := by have := dec_le h; rwa [mk_size] at this
theorem sgni {n : Int} (h : WfInt .i64 n) : ((Lib.itoa n)).length ≤ 21 := by have := sgn_len h; rwa [mk_size] at this
theorem nums_len (l : List Int) : (numsL l).length ≤ l.length * 21 := flat_len l (fun n _ => by
 have := dec20 n
 simp only [List.length_append, List.length_cons, List.length_nil]; omega)
theorem con_len {c : Con} (h : conHead c = true) (hf : conFit c) : (conBd c).length ≤ 90000000000 := by
 unfold conHead at h
 simp only [Bool.and_eq_true] at h
 have h2 := h.2.2
 split at h2
 · rename_i y he
   obtain ⟨a1, a2, a3⟩ := hf
   have hy := a3 y (by rw [he]; exact List.mem_cons_self)
   obtain ⟨b1, b2, b3⟩ := hy
   have hn := nums_len (y.ttl ++ y.rng)
   simp only [Bool.and_eq_true, decide_eq_true_eq] at h2
   have c1 := h2.2.1
   have c2 := h2.2.2.1
   clear h2
   unfold big at *
   simp only [List.length_append] at hn
   simp only [conBd, he, adrL, List.flatMap_cons, List.flatMap_nil, List.length_append, List.length_cons, List.length_nil, bs_len]
   omega
 · cases h2
theorem bw_len {b : Bwd} (h1 : b.ty.size ≤ 2147483647) (h2 : WfInt .u64 b.n) : (bwBd b).length ≤ 10000000000 := by
 have := decu h2
 unfold bwBd
 split <;> simp only [List.length_append, List.length_cons, List.length_nil, bs_len] <;> omega
theorem att_len {a : Att} (h1 : a.key.size ≤ 2147483647) (h2 : a.val.size ≤ 2147483647) : (attBd a).length ≤ 10000000000 := by
 unfold attBd
 split <;> simp only [List.length_append, List.length_cons, List.length_nil, bs_len] <;> omega
theorem text_len {l : Ln} (h : LnOk l) (hf : LnFit l) : l.text.length ≤ 100000000000 := by
 unfold Ln.text
 simp only [List.length_cons]
 have B : big = 2147483647 := rfl
 cases l <;> simp only [Ln.body, LnFit, LnOk, B, bs_len, List.length_append, List.length_cons, List.length_nil] at *
 case lo o =>
  have h1 := decu hf.2.2.2.2.1
  have h2 := decu hf.2.2.2.2.2
  omega
 case lc c => have := con_len h hf; omega
 case mc c => have := con_len h hf; omega
 case lb b => have := bw_len hf.1 hf.2; omega
 case mb b => have := bw_len hf.1 hf.2; omega
 case lt t =>
  have h1 := decu hf.1
  have h2 := decu hf.2
  omega
 case lr r =>
  have h1 := sgni hf.1
  have h2 := sgni hf.2.1
  have h3 : (offsL r.offs).length ≤ r.offs.length * 22 := flat_len r.offs (fun o ho => by
   have := sgni (hf.2.2 o ho)
   simp only [List.length_append, List.length_cons, List.length_nil]; omega)
  unfold repB at h
  simp only [Bool.and_eq_true, decide_eq_true_eq] at h
  have h4 := h.1.2.2.2.2.2
  omega
 case lz zs =>
  have h1 := join_len (sep := [32]) (n := 21) ((zonesW zs).map mk) (fun x hx => by
   obtain ⟨l, hl, rfl⟩ := List.mem_map.1 hx
   obtain ⟨z, hz, hl⟩ := List.mem_flatMap.1 hl
   rw [mk_size]
   have a1 := decu (hf z hz).1
   have a2 := sgni (hf z hz).2
   simp only [List.mem_cons, List.not_mem_nil, or_false] at hl
   rcases hl with rfl | rfl <;> omega)
  have h2 : ∀ l : List Zon, (zonesW l).length = 2 * l.length := fun l => by
   induction l with
   | nil => rfl
   | cons a l ih => unfold zonesW at ih ⊢; rw [List.flatMap_cons, List.length_append, ih]; simp; omega
  rw [List.length_map, h2] at h1
  have h3 := h.2.1
  simp only [List.length_cons, List.length_nil] at h1
  omega
 case la a => have := att_len hf.1 hf.2; omega
 case ma a => have := att_len hf.1 hf.2; omega
 case lm m =>
  obtain ⟨a1, a2, a3, a4⟩ := hf
  have hh := h.1
  unfold medB medHead at hh
  simp only [Bool.and_eq_true, decide_eq_true_eq] at hh
  have b1 := hh.1.2.2.2.2.2.1
  have b2 := hh.1.2.2.2.2.2.2.2
  have h1 := join_len (sep := [47]) m.protos a2
  have h2 := join_len (sep := [32]) m.fmts a3
  have h3 := nums_len m.ports
  have h4 := dec20 m.port
  simp only [portL, List.length_append, List.length_cons, List.length_nil] at *
  omega
 all_goals omega
theorem Ty.Sl_mem {α : Type} {T : Ty α} {w : World} {xs : List α} {v : Value} (h : T.Sl w xs v) : ∀ x ∈ xs, ∃ cs, T.rel w x cs := fun x hx => by
 obtain ⟨i, hi, rfl⟩ := List.getElem_of_mem hx
 rcases h.2 with ⟨rfl, _⟩ | ⟨_, b, o, c, _, _, ha⟩
 · simp at hi
 · obtain ⟨cs, hr, _⟩ := ha i _ (List.getElem?_eq_getElem hi)
   exact ⟨cs, hr⟩
theorem fit3 {xs : List ByteArray} (h : fitB3 xs = true) : ∀ x ∈ xs, x.size ≤ big := fun x hx => by
 unfold fitB3 at h
 simp only [Bool.and_eq_true, List.all_eq_true] at h
 have := h.2 x hx
 unfold fStr at this
 simpa [big] using this
theorem fit4 {xs : List Con} (h : fitB4 xs = true) : ∀ c ∈ xs, conFit c := fun c hc => by
 unfold fitB4 at h
 simp only [Bool.and_eq_true, List.all_eq_true] at h
 have := h.2 c hc
 unfold fitB5 fitB6 at this
 simp only [Bool.and_eq_true, List.all_eq_true] at this
 obtain ⟨a1, a2, a3, a4⟩ := this
 unfold fStr at a1 a2
 refine ⟨by simpa [big] using a1, by simpa [big] using a2, fun a ha => ?_⟩
 have h5 := a4 a ha
 unfold fitB7 fStr fLen at h5
 simpa [big, adrFit] using h5
theorem fit8 {xs : List Bwd} (h : fitB8 xs = true) : ∀ b ∈ xs, b.ty.size ≤ big := fun b hb => by
 unfold fitB8 at h
 simp only [Bool.and_eq_true, List.all_eq_true] at h
 have := h.2 b hb
 unfold fitB9 fStr at this
 simpa [big] using this
theorem fit14 {xs : List Att} (h : fitB14 xs = true) : ∀ a ∈ xs, a.key.size ≤ big ∧ a.val.size ≤ big := fun a ha => by
 unfold fitB14 at h
 simp only [Bool.and_eq_true, List.all_eq_true] at h
 have := h.2 a ha
 unfold fitB15 fStr at this
 simpa [big] using this
theorem bwd_wf {w : World} {xs : List Bwd} {v : Value} (h : tyBwd.Sl w xs v) : ∀ b ∈ xs, WfInt .u64 b.n := fun b hb => by
 obtain ⟨cs, _, _, h⟩ := Ty.Sl_mem h b hb
 exact h
theorem u64_lt {n : Int} (h : WfInt .u64 n) : 0 ≤ n ∧ n < 18446744073709551616 := by
 have := wf_u64 h
 omega
theorem ssn_fit {x : Ssn} {w : World} {v0 v1 v2 v3 v4 v5 v6 v7 v8 v9 v10 : Value} (m : SsnAt w x v0 v1 v2 v3 v4 v5 v6 v7 v8 v9 v10) (hf : fitB1 x = true) : SsnBig x ∧ (∀ l ∈ lns x, LnFit l) := by
 unfold fitB1 at hf
 simp only [Bool.and_eq_true] at hf
 obtain ⟨f0, f1, f2, f3, f4, f5, f6, f7, f8, f9, f10, f11, f12⟩ := hf
 have fo : x.org.user.size ≤ big ∧ x.org.net.size ≤ big ∧ x.org.addr.size ≤ big ∧ x.org.adr.size ≤ big := by
  unfold fitB2 fStr at f0; simpa [big] using f0
 have fn : x.name.size ≤ big := by unfold fStr at f1; simpa [big] using f1
 have ht : ∀ t ∈ x.times, WfInt .u64 t.start ∧ WfInt .u64 t.stop ∧ ∀ r ∈ t.reps, WfInt .i64 r.ivl ∧ WfInt .i64 r.dur ∧ ∀ o ∈ r.offs, WfInt .i64 o := fun t ht => by
  obtain ⟨cs, v, _, h1, h2, h3⟩ := Ty.Sl_mem m.times t ht
  refine ⟨h1, h2, fun r hr => ?_⟩
  obtain ⟨cs, v, _, h4, h5, h6⟩ := Ty.Sl_mem h3 r hr
  refine ⟨h4, h5, fun o ho => ?_⟩
  obtain ⟨cs, _, h7⟩ := Ty.Sl_mem h6 o ho
  exact h7
 have hz : ∀ z ∈ x.zones, WfInt .u64 z.time ∧ WfInt .i64 z.off := fun z hz => by
  obtain ⟨cs, _, h1, h2⟩ := Ty.Sl_mem m.zones z hz
  exact ⟨h1, h2⟩
 have hm : ∀ y ∈ x.media, (y.name.size ≤ big ∧ y.ports.length ≤ big ∧ (∀ s ∈ y.protos, s.size ≤ big) ∧ (∀ s ∈ y.fmts, s.size ≤ big) ∧ (∀ s ∈ y.title, s.size ≤ big) ∧ (∀ c ∈ y.conn, conFit c) ∧ (∀ b ∈ y.bws, b.ty.size ≤ big ∧ WfInt .u64 b.n) ∧ (∀ s ∈ y.key, s.size ≤ big) ∧ ∀ a ∈ y.atts, a.key.size ≤ big ∧ a.val.size ≤ big) := fun y hy => by
  unfold fitB16 at f12
  simp only [Bool.and_eq_true, List.all_eq_true] at f12
  have h := f12.2 y hy
  unfold fitB17 at h
  simp only [Bool.and_eq_true] at h
  obtain ⟨g0, g1, g2, g3, g4, g5, g6, g7, g8⟩ := h
  obtain ⟨cs, u0, u1, u2, u3, u4, u5, u6, u7, _, mm⟩ := Ty.Sl_mem m.media y hy
  unfold fStr at g0
  unfold fLen at g1
  exact ⟨by simpa [big] using g0, by simpa [big] using g1, fit3 g2, fit3 g3, fit3 g4, fit4 g5, fun b hb => ⟨fit8 g6 b hb, bwd_wf mm.bws b hb⟩, fit3 g7, fit14 g8⟩
 have hb : ∀ b ∈ x.bws, b.ty.size ≤ big ∧ WfInt .u64 b.n := fun b hb => ⟨fit8 f7 b hb, bwd_wf m.bws b hb⟩
 have h2 := fit3 f2
 have h3 := fit3 f3
 have h4 := fit3 f4
 have h5 := fit3 f5
 have h6 := fit4 f6
 have h10 := fit3 f10
 have h11 := fit14 f11
 refine ⟨⟨u64_lt m.oid, u64_lt m.over, fun b k => ⟨(hb b k).1, (u64_lt (hb b k).2).1⟩, fun t k => ⟨(u64_lt (ht t k).1).1, (u64_lt (ht t k).2.1).1⟩, fun z k => (u64_lt (hz z k).1).1, fun y k => ⟨(hm y k).1, (hm y k).2.2.2.1, fun b kb => ⟨((hm y k).2.2.2.2.2.2.1 b kb).1, (u64_lt ((hm y k).2.2.2.2.2.2.1 b kb).2).1⟩⟩⟩, ?_⟩
 intro l hl
 simp only [lns, List.mem_cons, List.mem_append, List.mem_map, List.mem_flatMap] at hl
 rcases hl with rfl | rfl | rfl | ⟨y, hy, rfl⟩ | ⟨y, hy, rfl⟩ | ⟨y, hy, rfl⟩ | ⟨y, hy, rfl⟩ | ⟨y, hy, rfl⟩ | ⟨y, hy, rfl⟩ | ⟨t, k, hl⟩ | hl | ⟨y, hy, rfl⟩ | ⟨y, hy, rfl⟩ | ⟨y, k, hl⟩
 · exact trivial
 · exact ⟨fo.1, fo.2.1, fo.2.2.1, fo.2.2.2, m.oid, m.over⟩
 · exact fn
 · exact h2 y hy
 · exact h3 y hy
 · exact h4 y hy
 · exact h5 y hy
 · exact h6 y hy
 · exact hb y hy
 · simp only [timLns, List.mem_cons, List.mem_map] at hl
   rcases hl with rfl | ⟨r, hr, rfl⟩
   · exact ⟨(ht t k).1, (ht t k).2.1⟩
   · exact (ht t k).2.2 r hr
 · split at hl
   · cases hl
   · obtain rfl := List.mem_singleton.1 hl
     exact hz
 · exact h10 y hy
 · exact h11 y hy
 · obtain ⟨g0, g1, g2, g3, g4, g5, g6, g7, g8⟩ := hm y k
   simp only [medLns, List.mem_cons, List.mem_append, List.mem_map] at hl
   rcases hl with rfl | ⟨z, kz, rfl⟩ | ⟨z, kz, rfl⟩ | ⟨z, kz, rfl⟩ | ⟨z, kz, rfl⟩ | ⟨z, kz, rfl⟩
   · exact ⟨g0, g2, g3, g1⟩
   · exact g4 z kz
   · exact g5 z kz
   · exact g6 z kz
   · exact g7 z kz
   · exact g8 z kz
theorem wts_len (ls : List Ln) : ls.length ≤ wts ls := by
 induction ls with
 | nil => simp [wts]
 | cons a ls ih =>
  have h : 1 ≤ wt a := by cases a <;> simp [wt]
  rw [wts_cons, List.length_cons]
  omega
theorem lns_bound {x : Ssn} {w : World} {v0 v1 v2 v3 v4 v5 v6 v7 v8 v9 v10 : Value} (m : SsnAt w x v0 v1 v2 v3 v4 v5 v6 v7 v8 v9 v10) (hf : fitB1 x = true) (hp : proper x = true) : Lns (linesB x) := by
 obtain ⟨h1, h2⟩ := ssn_fit m hf
 obtain ⟨h3, h4, h5, h6, h7⟩ := lns_ok hp h1
 rw [← lns_text x h7]
 have hw := wts_len (lns x)
 refine ⟨by rw [List.length_map]; omega, fun t ht => ?_⟩
 obtain ⟨l, hl, rfl⟩ := List.mem_map.1 ht
 have := text_len (h3 l hl) (h2 l hl)
 unfold strMax
 omega
theorem con_sz {xs : List Con} (h : ∀ c ∈ xs, conFit c) : ConSz xs := fun c hc a ha => by
 have := (h c hc).2.2 a ha
 unfold adrFit big at this
 omega
theorem ssn_sizes {x : Ssn} (hf : fitB1 x = true) : ConSz x.conn ∧ (∀ y ∈ x.media, ConSz y.conn) ∧ x.zones.length ≤ 2147483647 ∧
 (x.conn.length ≤ 2147483647 ∧ x.bws.length ≤ 2147483647 ∧ x.atts.length ≤ 2147483647 ∧ x.times.length ≤ 2147483647 ∧ x.zones.length ≤ 2147483647 ∧ x.media.length ≤ 2147483647) ∧ (∀ c ∈ x.conn, c.adrs.length ≤ 2147483647) ∧ (∀ t ∈ x.times, t.reps.length ≤ 2147483647) ∧
 (∀ y ∈ x.media, y.conn.length ≤ 2147483647 ∧ y.bws.length ≤ 2147483647 ∧ y.atts.length ≤ 2147483647 ∧ ∀ c ∈ y.conn, c.adrs.length ≤ 2147483647) := by
 unfold fitB1 at hf
 simp only [Bool.and_eq_true] at hf
 obtain ⟨f0, f1, f2, f3, f4, f5, f6, f7, f8, f9, f10, f11, f12⟩ := hf
 have L4 : ∀ {xs : List Con}, fitB4 xs = true → xs.length ≤ 2147483647 ∧ ∀ c ∈ xs, c.adrs.length ≤ 2147483647 := fun {xs} h => by
  unfold fitB4 fLen fitB5 fitB6 fLen at h
  simp only [Bool.and_eq_true, List.all_eq_true, decide_eq_true_eq] at h
  exact ⟨h.1, fun c hc => (h.2 c hc).2.2.1⟩
 have L8 : ∀ {xs : List Bwd}, fitB8 xs = true → xs.length ≤ 2147483647 := fun {xs} h => by
  unfold fitB8 fLen at h
  simp only [Bool.and_eq_true, decide_eq_true_eq] at h
  exact h.1
 have L14 : ∀ {xs : List Att}, fitB14 xs = true → xs.length ≤ 2147483647 := fun {xs} h => by
  unfold fitB14 fLen at h
  simp only [Bool.and_eq_true, decide_eq_true_eq] at h
  exact h.1
 have hz : x.zones.length ≤ 2147483647 := by unfold fLen at f9; simpa using f9
 have ht : x.times.length ≤ 2147483647 ∧ ∀ t ∈ x.times, t.reps.length ≤ 2147483647 := by
  unfold fitB10 fitB11 fitB12 fLen at f8
  simp only [Bool.and_eq_true, List.all_eq_true, decide_eq_true_eq] at f8
  exact ⟨f8.1, fun t ht => (f8.2 t ht).1⟩
 unfold fitB16 fLen at f12
 simp only [Bool.and_eq_true, List.all_eq_true, decide_eq_true_eq] at f12
 have hm : ∀ y ∈ x.media, fitB4 y.conn = true ∧ fitB8 y.bws = true ∧ fitB14 y.atts = true := fun y hy => by
  have h := f12.2 y hy
  unfold fitB17 at h
  simp only [Bool.and_eq_true] at h
  exact ⟨h.2.2.2.2.2.1, h.2.2.2.2.2.2.1, h.2.2.2.2.2.2.2.2⟩
 exact ⟨con_sz (fit4 f6), fun y hy => con_sz (fit4 (hm y hy).1), hz, ⟨(L4 f6).1, L8 f7, L14 f11, ht.1, hz, f12.1⟩, (L4 f6).2, ht.2, fun y hy => ⟨(L4 (hm y hy).1).1, L8 (hm y hy).2.1, L14 (hm y hy).2.2, (L4 (hm y hy).1).2⟩⟩
end Go.Proofs.YtcepdjlknalmnaaGreatDoor

/- What comes in, read, and measured by the statement's bulk. Written by a small program of this claim's own (genrdm). -/
import Derived.Test.YtcepdjlknalmnaaGreatDoorRdg
import Derived.Test.YtcepdjlknalmnaaGreatDoorBnd
namespace Go.Proofs.YtcepdjlknalmnaaGreatDoor
open Go.RowKit
set_option linter.unusedSimpArgs false
set_option linter.unusedVariables false

/-- How much a session holds. -/
def mStr (s : ByteArray) : Nat := s.size + 1
def mL {α : Type} (m : α → Nat) (xs : List α) : Nat := (xs.map m).sum + 1
def mAdr (a : Adr) : Nat := mStr a.addr + mL (fun _ => 1) a.ttl + mL (fun _ => 1) a.rng
def mCon (c : Con) : Nat := mStr c.net + mStr c.addr + mL mAdr c.adrs
def mBwd (b : Bwd) : Nat := mStr b.ty + 1
def mRep (r : Rep) : Nat := 2 + mL (fun _ => 1) r.offs
def mTim (t : Tim) : Nat := 2 + mL mRep t.reps
def mZon (_ : Zon) : Nat := 2
def mAtt (a : Att) : Nat := mStr a.key + mStr a.val
def mMed (m : Med) : Nat := mStr m.name + 1 + mL (fun _ => 1) m.ports + mL mStr m.protos + mL mStr m.fmts + mL mStr m.title + mL mCon m.conn + mL mBwd m.bws + mL mStr m.key + mL mAtt m.atts
def mOrg (o : Org) : Nat := mStr o.user + 2 + mStr o.net + mStr o.addr + mStr o.adr
def mSsn (x : Ssn) : Nat := 1 + mOrg x.org + mStr x.name + mL mStr x.info + mL mStr x.uri + mL mStr x.email + mL mStr x.phone + mL mCon x.conn + mL mBwd x.bws + mL mTim x.times + mL mZon x.zones + mL mStr x.key + mL mAtt x.atts + mL mMed x.media
/-- Whatever is read of type t tells an element of the kind T, of no more than its bulk. -/
def RdM {α : Type} (T : Ty α) (t : TypeId) (m : α → Nat) : Prop := ∀ (H : Type) (enc : TypeId × Value → H) (w : World) (base : Nat) (sp : Nat → Bool) (held : Bool) (fuel : Nat) (cs : List Value) (x : DataW H × List MemPlace),
  DataW.trod enc Tryz.prog w base sp held fuel t cs = some x → (∀ n ∈ x.1.weights Tryz.prog t, n ≤ reachBytes) → ∃ y, T.rel w y cs ∧ m y ≤ Rows.uptoBulk x.1
theorem rdm_str {t : TypeId} (ht : Tryz.prog.underlying t = some .string) : RdM tyStr t mStr := fun H enc w base sp held fuel cs x h hz => by
  obtain ⟨s, rfl, rfl, hs⟩ := DataW.trod_string ht h
  have := hz s.data.toList.length (by simp [DataW.weights])
  have h2 := reach_lt
  refine ⟨s, ⟨rfl, by unfold WfStr strMax; simp at this; omega⟩, ?_⟩
  simp only [Rows.uptoBulk, mStr]
  exact Nat.le_refl _
theorem rdm_int {t : TypeId} {k : IntKind} (ht : Tryz.prog.underlying t = some (.int k)) : RdM (tyInt k) t (fun _ => 1) := fun H enc w base sp held fuel cs x h hz => by
  obtain ⟨n, rfl, rfl, hs⟩ := DataW.trod_int ht h
  exact ⟨n, ⟨rfl, by unfold Lit.wf at hs; unfold WfInt; simpa using hs⟩, by simp [Rows.uptoBulk]⟩
theorem rdm_b : RdM tyB 4 (fun _ => 1) := fun H enc w base sp held fuel cs x h hz => by
  obtain ⟨b, rfl, rfl⟩ := DataW.trod_bool Tryz.underlying4 h
  exact ⟨b, ⟨rfl, trivial⟩, by simp [Rows.uptoBulk]⟩
theorem bulk_app {H : Type} (l r : List (DataW H)) : Rows.uptoBulkAll (l ++ r) = Rows.uptoBulkAll l + Rows.uptoBulkAll r := by
  induction l with
  | nil => simp [Rows.uptoBulkAll]
  | cons x l ih => simp only [List.cons_append, Rows.uptoBulkAll, ih]; omega
theorem bulk_snoc {H : Type} {elems : List (DataW H × List MemPlace)} {m : Nat} (hm : m < elems.length) : Rows.uptoBulkAll ((elems.take (m + 1)).map (·.1)) = Rows.uptoBulkAll ((elems.take m).map (·.1)) + Rows.uptoBulk elems[m].1 := by
  have h : elems.take (m + 1) = elems.take m ++ [elems[m]] := by rw [List.take_add_one, List.getElem?_eq_getElem hm]; rfl
  rw [h, List.map_append, bulk_app]
  simp [Rows.uptoBulkAll]
theorem rdm_sl {α : Type} {T : Ty α} {t e : TypeId} {mf : α → Nat} (ht : Tryz.prog.underlying t = some (.slice e)) (hc : Tryz.prog.cellsOf e = T.sz) (hp : 0 < T.sz) (hb1 : Nat.ble 1 (Tryz.prog.bytesOf e) = true) (hT : RdM T e mf) : RdM T.sl t (mL mf) := fun H enc w base sp held fuel cs x h hz => by
  have hb := Nat.le_of_ble_eq_true hb1
  rcases DataW.trod_slice ht h with ⟨rfl, rfl⟩ | ⟨a, len, cap, elems, rest, n, rfl, rfl, rfl, hba, hlc, hcm, hel, hget, _, _⟩
  · exact ⟨[], ⟨_, rfl, Ty.Sl_nil _ _⟩, by simp [mL, Rows.uptoBulk]⟩
  · have hw := hz ((elems.length + rest.length) * Tryz.prog.bytesOf e) (by simp [DataW.weights, ht])
    have hlen : len ≤ 140737488355328 := by
      have h2 := reach_lt
      have h3 : (elems.length + rest.length) * 1 ≤ (elems.length + rest.length) * Tryz.prog.bytesOf e := Nat.mul_le_mul_left _ hb
      omega
    have hex : ∀ m, m ≤ len → ∃ ys : List α, ys.length = m ∧ (ys.map mf).sum ≤ Rows.uptoBulkAll ((elems.take m).map (·.1)) ∧ ∀ (i : Nat) y, ys[i]? = some y → ∃ cs, T.rel w y cs ∧ w.cells? base (a.add (i * T.sz)) T.sz = some cs := by
      intro m
      induction m with
      | zero => exact fun _ => ⟨[], rfl, by simp [Rows.uptoBulkAll], fun i y hy => by simp at hy⟩
      | succ m ih =>
        intro hm
        obtain ⟨ys, hl, hs, hy⟩ := ih (by omega)
        have hg := hget m (by omega)
        rw [List.getElem?_eq_getElem (by omega : m < elems.length)] at hg
        obtain ⟨cs, h1, h2⟩ := Option.bind_eq_some_iff.1 hg
        obtain ⟨y, hr, hmy⟩ := hT H enc w base sp held n cs _ h2 (fun k hk => hz k (by
          simp only [DataW.weights, ht, List.mem_cons, List.mem_append]
          exact .inr (.inl (weights_all (List.mem_map.2 ⟨_, List.getElem_mem _, rfl⟩) k hk))))
        refine ⟨ys ++ [y], by simp [hl], ?_, fun i y' hy' => ?_⟩
        · rw [bulk_snoc (by omega : m < elems.length), List.map_append, List.sum_append]
          simp only [List.map_cons, List.map_nil, List.sum_cons, List.sum_nil]
          omega
        · rcases Nat.lt_or_ge i ys.length with hlt | hge
          · rw [List.getElem?_append_left hlt] at hy'; exact hy i y' hy'
          · have hi : i = m := by have := (List.getElem?_eq_some_iff.1 hy').1; simp at this; omega
            subst hi
            rw [List.getElem?_append_right hge, hl, Nat.sub_self] at hy'
            obtain rfl : y = y' := by simpa using hy'
            exact ⟨cs, hr, by rw [hc] at h1; exact h1⟩
    obtain ⟨ys, hl, hs, hy⟩ := hex len (Nat.le_refl _)
    rw [List.take_of_length_le (by omega)] at hs
    refine ⟨ys, ⟨_, rfl, by omega, ?_⟩, by simp only [mL, Rows.uptoBulk]; omega⟩
    rcases Nat.eq_zero_or_pos len with h0 | h0
    · left
      subst h0
      exact ⟨List.eq_nil_of_length_eq_zero hl, some a, cap, rfl, fun e => by cases e⟩
    · right
      obtain ⟨cs0, hr0, hc0⟩ := hy 0 _ (List.getElem?_eq_getElem (by omega : 0 < ys.length))
      obtain ⟨_, hl0, hg0⟩ := World.cells?_some hc0
      have h1 := hg0 0 hp
      rw [List.getElem?_eq_getElem (by omega : 0 < cs0.length)] at h1
      have hsp : a.spot = none := by
        rw [Nat.zero_mul] at h1
        have e : (a.add 0).add 0 = a := by simp [Addr.add]
        rw [e] at h1
        unfold World.cell? at h1
        split at h1
        · split at h1
          · cases h1
          · rename_i hn; simpa using hn
        · cases h1
      obtain ⟨b, o, spot⟩ := a
      subst hsp
      refine ⟨by omega, b, o, cap, by rw [hl], by omega, fun k y hk => ?_⟩
      obtain ⟨cs, hr, hcs⟩ := hy k y hk
      obtain ⟨_, hlc2, hg⟩ := World.cells?_some hcs
      refine ⟨cs, hr, fun j u hu => ?_⟩
      have hj : j < cs.length := (List.getElem?_eq_some_iff.1 hu).1
      rw [← addr_add b (o + k * T.sz) j, ← addr_add b o (k * T.sz), hg j (by omega), hu]
theorem rdm_struct {H : Type} {enc : TypeId × Value → H} {w : World} {base : Nat} {sp : Nat → Bool} {held : Bool} {fuel : Nat} {t : TypeId} {fs : Array Field} {cs : List Value} {x : DataW H × List MemPlace} (ht : Tryz.prog.underlying t = some (.struct fs))
    (h : DataW.trod enc Tryz.prog w base sp held fuel t cs = some x) (hz : ∀ n ∈ x.1.weights Tryz.prog t, n ≤ reachBytes) :
    ∃ xs : List (DataW H × List MemPlace), x.1 = .agg (xs.map (·.1)) ∧ xs.length = fs.size ∧ cs.length = Tryz.prog.cellsOf t ∧ ∀ (i : Nat) (t' off n : Nat) {α : Type} (T : Ty α) (m : α → Nat), (fs[i]?).map (fun f => (f.type, f.offset)) = some (t', off) → Tryz.prog.cellsOf t' = n → RdM T t' m →
      ∀ z, xs[i]? = some z → ∃ y, T.rel w y ((cs.drop off).take n) ∧ m y ≤ Rows.uptoBulk z.1 := by
  obtain ⟨xs, n0, rfl, rfl, hl, hx, hf⟩ := DataW.trod_struct ht h
  refine ⟨xs, rfl, hx, hl, fun i t' off n α T m hi hn hT z hzi => ?_⟩
  obtain ⟨f, hfi, he⟩ := Option.map_eq_some_iff.1 hi
  simp only [Prod.mk.injEq] at he
  obtain ⟨rfl, rfl⟩ := he
  subst hn
  have hlt : i < xs.length := by rw [hx]; exact (Array.getElem?_eq_some_iff.1 hfi).1
  have h1 := hf i f hfi
  rw [hzi] at h1
  refine hT H enc w base sp held n0 _ _ h1 (fun k hk => hz k ?_)
  simp only [DataW.weights, ht]
  exact DataW.weights_mem_each (j := i) (t := f.type) (d := z.1) (by rw [List.getElem?_map, Array.getElem?_toList, hfi]; rfl) (by rw [List.getElem?_map, hzi]; rfl) k hk
theorem rdm_25 : RdM tyStr.sl 25 (mL mStr) := rdm_sl Tryz.underlying25 (by kernel_rfl) (by decide) (by kernel_rfl) (rdm_str Tryz.underlying9)
theorem rdm_82 : RdM tyI.sl 82 (mL (fun _ => 1)) := rdm_sl Tryz.underlying82 (by kernel_rfl) (by decide) (by kernel_rfl) (rdm_int Tryz.underlying3)
theorem rdm_75 : RdM tyI.sl 75 (mL (fun _ => 1)) := rdm_sl Tryz.underlying75 (by kernel_rfl) (by decide) (by kernel_rfl) (rdm_int Tryz.underlying2)
theorem rdm_adr : RdM tyAdr 145 mAdr := fun H enc w base sp held fuel cs x h hz => by
  obtain ⟨xs, hxs, hxl, hl, hf⟩ := rdm_struct Tryz.underlying145 h hz
  have hxl2 : xs.length = 3 := hxl
  have hl2 : cs.length = 3 := hl.trans (by kernel_rfl)
  clear h hz hl hxl
  obtain ⟨a0, a1, a2, rfl⟩ : ∃ a0 a1 a2, cs = [a0, a1, a2] := by
    match cs, hl2 with
    | [a0, a1, a2], _ => exact ⟨a0, a1, a2, rfl⟩
  obtain ⟨z0, z1, z2, rfl⟩ : ∃ z0 z1 z2, xs = [z0, z1, z2] := by
    match xs, hxl2 with
    | [z0, z1, z2], _ => exact ⟨z0, z1, z2, rfl⟩
  obtain ⟨y0, h0, k0⟩ := hf 0 9 0 1 tyStr mStr rfl (by kernel_rfl) (rdm_str Tryz.underlying9) z0 rfl
  obtain ⟨e0, g0⟩ := h0
  replace e0 : [a0] = _ := e0
  simp only [List.cons.injEq, and_true] at e0
  subst e0
  obtain ⟨y1, h1, k1⟩ := hf 1 82 1 1 tyI.sl (mL fun _ => 1) rfl (by kernel_rfl) rdm_82 z1 rfl
  obtain ⟨v1, e1, g1⟩ := h1
  obtain rfl : a1 = v1 := by simpa using e1
  obtain ⟨y2, h2, k2⟩ := hf 2 82 2 1 tyI.sl (mL fun _ => 1) rfl (by kernel_rfl) rdm_82 z2 rfl
  obtain ⟨v2, e2, g2⟩ := h2
  obtain rfl : a2 = v2 := by simpa using e2
  refine ⟨⟨y0, y1, y2⟩, ⟨_, _, rfl, g0, g1, g2⟩, ?_⟩
  rw [hxs]
  simp only [List.map_cons, List.map_nil, Rows.uptoBulk, Rows.uptoBulkAll, mAdr]
  omega
theorem rdm_133 : RdM tyAdr.sl 133 (mL mAdr) := rdm_sl Tryz.underlying133 (by kernel_rfl) (by decide) (by kernel_rfl) rdm_adr
theorem rdm_con : RdM tyCon 135 mCon := fun H enc w base sp held fuel cs x h hz => by
  obtain ⟨xs, hxs, hxl, hl, hf⟩ := rdm_struct Tryz.underlying135 h hz
  have hxl2 : xs.length = 3 := hxl
  have hl2 : cs.length = 3 := hl.trans (by kernel_rfl)
  clear h hz hl hxl
  obtain ⟨a0, a1, a2, rfl⟩ : ∃ a0 a1 a2, cs = [a0, a1, a2] := by
    match cs, hl2 with
    | [a0, a1, a2], _ => exact ⟨a0, a1, a2, rfl⟩
  obtain ⟨z0, z1, z2, rfl⟩ : ∃ z0 z1 z2, xs = [z0, z1, z2] := by
    match xs, hxl2 with
    | [z0, z1, z2], _ => exact ⟨z0, z1, z2, rfl⟩
  obtain ⟨y0, h0, k0⟩ := hf 0 9 0 1 tyStr mStr rfl (by kernel_rfl) (rdm_str Tryz.underlying9) z0 rfl
  obtain ⟨e0, g0⟩ := h0
  replace e0 : [a0] = _ := e0
  simp only [List.cons.injEq, and_true] at e0
  subst e0
  obtain ⟨y1, h1, k1⟩ := hf 1 9 1 1 tyStr mStr rfl (by kernel_rfl) (rdm_str Tryz.underlying9) z1 rfl
  obtain ⟨e1, g1⟩ := h1
  replace e1 : [a1] = _ := e1
  simp only [List.cons.injEq, and_true] at e1
  subst e1
  obtain ⟨y2, h2, k2⟩ := hf 2 133 2 1 tyAdr.sl (mL mAdr) rfl (by kernel_rfl) rdm_133 z2 rfl
  obtain ⟨v2, e2, g2⟩ := h2
  obtain rfl : a2 = v2 := by simpa using e2
  refine ⟨⟨y0, y1, y2⟩, ⟨_, rfl, g0, g1, g2⟩, ?_⟩
  rw [hxs]
  simp only [List.map_cons, List.map_nil, Rows.uptoBulk, Rows.uptoBulkAll, mCon]
  omega
theorem rdm_26 : RdM tyCon.sl 26 (mL mCon) := rdm_sl Tryz.underlying26 (by kernel_rfl) (by decide) (by kernel_rfl) rdm_con
theorem rdm_bwd : RdM tyBwd 138 mBwd := fun H enc w base sp held fuel cs x h hz => by
  obtain ⟨xs, hxs, hxl, hl, hf⟩ := rdm_struct Tryz.underlying138 h hz
  have hxl2 : xs.length = 3 := hxl
  have hl2 : cs.length = 3 := hl.trans (by kernel_rfl)
  clear h hz hl hxl
  obtain ⟨a0, a1, a2, rfl⟩ : ∃ a0 a1 a2, cs = [a0, a1, a2] := by
    match cs, hl2 with
    | [a0, a1, a2], _ => exact ⟨a0, a1, a2, rfl⟩
  obtain ⟨z0, z1, z2, rfl⟩ : ∃ z0 z1 z2, xs = [z0, z1, z2] := by
    match xs, hxl2 with
    | [z0, z1, z2], _ => exact ⟨z0, z1, z2, rfl⟩
  obtain ⟨y0, h0, k0⟩ := hf 0 4 0 1 tyB (fun _ => 1) rfl (by kernel_rfl) rdm_b z0 rfl
  obtain ⟨e0, g0⟩ := h0
  replace e0 : [a0] = _ := e0
  simp only [List.cons.injEq, and_true] at e0
  subst e0
  obtain ⟨y1, h1, k1⟩ := hf 1 9 1 1 tyStr mStr rfl (by kernel_rfl) (rdm_str Tryz.underlying9) z1 rfl
  obtain ⟨e1, g1⟩ := h1
  replace e1 : [a1] = _ := e1
  simp only [List.cons.injEq, and_true] at e1
  subst e1
  obtain ⟨y2, h2, k2⟩ := hf 2 22 2 1 (tyInt .u64) (fun _ => 1) rfl (by kernel_rfl) (rdm_int Tryz.underlying22) z2 rfl
  obtain ⟨e2, g2⟩ := h2
  replace e2 : [a2] = _ := e2
  simp only [List.cons.injEq, and_true] at e2
  subst e2
  refine ⟨⟨y0, y1, y2⟩, ⟨rfl, g1, g2⟩, ?_⟩
  rw [hxs]
  simp only [List.map_cons, List.map_nil, Rows.uptoBulk, Rows.uptoBulkAll, mBwd]
  omega
theorem rdm_27 : RdM tyBwd.sl 27 (mL mBwd) := rdm_sl Tryz.underlying27 (by kernel_rfl) (by decide) (by kernel_rfl) rdm_bwd
theorem rdm_rep : RdM tyRep 77 mRep := fun H enc w base sp held fuel cs x h hz => by
  obtain ⟨xs, hxs, hxl, hl, hf⟩ := rdm_struct Tryz.underlying77 h hz
  have hxl2 : xs.length = 3 := hxl
  have hl2 : cs.length = 3 := hl.trans (by kernel_rfl)
  clear h hz hl hxl
  obtain ⟨a0, a1, a2, rfl⟩ : ∃ a0 a1 a2, cs = [a0, a1, a2] := by
    match cs, hl2 with
    | [a0, a1, a2], _ => exact ⟨a0, a1, a2, rfl⟩
  obtain ⟨z0, z1, z2, rfl⟩ : ∃ z0 z1 z2, xs = [z0, z1, z2] := by
    match xs, hxl2 with
    | [z0, z1, z2], _ => exact ⟨z0, z1, z2, rfl⟩
  obtain ⟨y0, h0, k0⟩ := hf 0 2 0 1 tyI (fun _ => 1) rfl (by kernel_rfl) (rdm_int Tryz.underlying2) z0 rfl
  obtain ⟨e0, g0⟩ := h0
  replace e0 : [a0] = _ := e0
  simp only [List.cons.injEq, and_true] at e0
  subst e0
  obtain ⟨y1, h1, k1⟩ := hf 1 2 1 1 tyI (fun _ => 1) rfl (by kernel_rfl) (rdm_int Tryz.underlying2) z1 rfl
  obtain ⟨e1, g1⟩ := h1
  replace e1 : [a1] = _ := e1
  simp only [List.cons.injEq, and_true] at e1
  subst e1
  obtain ⟨y2, h2, k2⟩ := hf 2 75 2 1 tyI.sl (mL fun _ => 1) rfl (by kernel_rfl) rdm_75 z2 rfl
  obtain ⟨v2, e2, g2⟩ := h2
  obtain rfl : a2 = v2 := by simpa using e2
  refine ⟨⟨y0, y1, y2⟩, ⟨_, rfl, g0, g1, g2⟩, ?_⟩
  rw [hxs]
  simp only [List.map_cons, List.map_nil, Rows.uptoBulk, Rows.uptoBulkAll, mRep]
  omega
theorem rdm_69 : RdM tyRep.sl 69 (mL mRep) := rdm_sl Tryz.underlying69 (by kernel_rfl) (by decide) (by kernel_rfl) rdm_rep
theorem rdm_tim : RdM tyTim 71 mTim := fun H enc w base sp held fuel cs x h hz => by
  obtain ⟨xs, hxs, hxl, hl, hf⟩ := rdm_struct Tryz.underlying71 h hz
  have hxl2 : xs.length = 3 := hxl
  have hl2 : cs.length = 3 := hl.trans (by kernel_rfl)
  clear h hz hl hxl
  obtain ⟨a0, a1, a2, rfl⟩ : ∃ a0 a1 a2, cs = [a0, a1, a2] := by
    match cs, hl2 with
    | [a0, a1, a2], _ => exact ⟨a0, a1, a2, rfl⟩
  obtain ⟨z0, z1, z2, rfl⟩ : ∃ z0 z1 z2, xs = [z0, z1, z2] := by
    match xs, hxl2 with
    | [z0, z1, z2], _ => exact ⟨z0, z1, z2, rfl⟩
  obtain ⟨y0, h0, k0⟩ := hf 0 22 0 1 (tyInt .u64) (fun _ => 1) rfl (by kernel_rfl) (rdm_int Tryz.underlying22) z0 rfl
  obtain ⟨e0, g0⟩ := h0
  replace e0 : [a0] = _ := e0
  simp only [List.cons.injEq, and_true] at e0
  subst e0
  obtain ⟨y1, h1, k1⟩ := hf 1 22 1 1 (tyInt .u64) (fun _ => 1) rfl (by kernel_rfl) (rdm_int Tryz.underlying22) z1 rfl
  obtain ⟨e1, g1⟩ := h1
  replace e1 : [a1] = _ := e1
  simp only [List.cons.injEq, and_true] at e1
  subst e1
  obtain ⟨y2, h2, k2⟩ := hf 2 69 2 1 tyRep.sl (mL mRep) rfl (by kernel_rfl) rdm_69 z2 rfl
  obtain ⟨v2, e2, g2⟩ := h2
  obtain rfl : a2 = v2 := by simpa using e2
  refine ⟨⟨y0, y1, y2⟩, ⟨_, rfl, g0, g1, g2⟩, ?_⟩
  rw [hxs]
  simp only [List.map_cons, List.map_nil, Rows.uptoBulk, Rows.uptoBulkAll, mTim]
  omega
theorem rdm_28 : RdM tyTim.sl 28 (mL mTim) := rdm_sl Tryz.underlying28 (by kernel_rfl) (by decide) (by kernel_rfl) rdm_tim
theorem rdm_zon : RdM tyZon 80 mZon := fun H enc w base sp held fuel cs x h hz => by
  obtain ⟨xs, hxs, hxl, hl, hf⟩ := rdm_struct Tryz.underlying80 h hz
  have hxl2 : xs.length = 2 := hxl
  have hl2 : cs.length = 2 := hl.trans (by kernel_rfl)
  clear h hz hl hxl
  obtain ⟨a0, a1, rfl⟩ : ∃ a0 a1, cs = [a0, a1] := by
    match cs, hl2 with
    | [a0, a1], _ => exact ⟨a0, a1, rfl⟩
  obtain ⟨z0, z1, rfl⟩ : ∃ z0 z1, xs = [z0, z1] := by
    match xs, hxl2 with
    | [z0, z1], _ => exact ⟨z0, z1, rfl⟩
  obtain ⟨y0, h0, k0⟩ := hf 0 22 0 1 (tyInt .u64) (fun _ => 1) rfl (by kernel_rfl) (rdm_int Tryz.underlying22) z0 rfl
  obtain ⟨e0, g0⟩ := h0
  replace e0 : [a0] = _ := e0
  simp only [List.cons.injEq, and_true] at e0
  subst e0
  obtain ⟨y1, h1, k1⟩ := hf 1 2 1 1 tyI (fun _ => 1) rfl (by kernel_rfl) (rdm_int Tryz.underlying2) z1 rfl
  obtain ⟨e1, g1⟩ := h1
  replace e1 : [a1] = _ := e1
  simp only [List.cons.injEq, and_true] at e1
  subst e1
  refine ⟨⟨y0, y1⟩, ⟨rfl, g0, g1⟩, ?_⟩
  rw [hxs]
  simp only [List.map_cons, List.map_nil, Rows.uptoBulk, Rows.uptoBulkAll, mZon]
  omega
theorem rdm_29 : RdM tyZon.sl 29 (mL mZon) := rdm_sl Tryz.underlying29 (by kernel_rfl) (by decide) (by kernel_rfl) rdm_zon
theorem rdm_att : RdM tyAtt 142 mAtt := fun H enc w base sp held fuel cs x h hz => by
  obtain ⟨xs, hxs, hxl, hl, hf⟩ := rdm_struct Tryz.underlying142 h hz
  have hxl2 : xs.length = 2 := hxl
  have hl2 : cs.length = 2 := hl.trans (by kernel_rfl)
  clear h hz hl hxl
  obtain ⟨a0, a1, rfl⟩ : ∃ a0 a1, cs = [a0, a1] := by
    match cs, hl2 with
    | [a0, a1], _ => exact ⟨a0, a1, rfl⟩
  obtain ⟨z0, z1, rfl⟩ : ∃ z0 z1, xs = [z0, z1] := by
    match xs, hxl2 with
    | [z0, z1], _ => exact ⟨z0, z1, rfl⟩
  obtain ⟨y0, h0, k0⟩ := hf 0 9 0 1 tyStr mStr rfl (by kernel_rfl) (rdm_str Tryz.underlying9) z0 rfl
  obtain ⟨e0, g0⟩ := h0
  replace e0 : [a0] = _ := e0
  simp only [List.cons.injEq, and_true] at e0
  subst e0
  obtain ⟨y1, h1, k1⟩ := hf 1 9 1 1 tyStr mStr rfl (by kernel_rfl) (rdm_str Tryz.underlying9) z1 rfl
  obtain ⟨e1, g1⟩ := h1
  replace e1 : [a1] = _ := e1
  simp only [List.cons.injEq, and_true] at e1
  subst e1
  refine ⟨⟨y0, y1⟩, ⟨rfl, g0, g1⟩, ?_⟩
  rw [hxs]
  simp only [List.map_cons, List.map_nil, Rows.uptoBulk, Rows.uptoBulkAll, mAtt]
  omega
theorem rdm_30 : RdM tyAtt.sl 30 (mL mAtt) := rdm_sl Tryz.underlying30 (by kernel_rfl) (by decide) (by kernel_rfl) rdm_att
theorem rdm_med : RdM tyMed 84 mMed := fun H enc w base sp held fuel cs x h hz => by
  obtain ⟨xs, hxs, hxl, hl, hf⟩ := rdm_struct Tryz.underlying84 h hz
  have hxl2 : xs.length = 10 := hxl
  have hl2 : cs.length = 10 := hl.trans (by kernel_rfl)
  clear h hz hl hxl
  obtain ⟨a0, a1, a2, a3, a4, a5, a6, a7, a8, a9, rfl⟩ : ∃ a0 a1 a2 a3 a4 a5 a6 a7 a8 a9, cs = [a0, a1, a2, a3, a4, a5, a6, a7, a8, a9] := by
    match cs, hl2 with
    | [a0, a1, a2, a3, a4, a5, a6, a7, a8, a9], _ => exact ⟨a0, a1, a2, a3, a4, a5, a6, a7, a8, a9, rfl⟩
  obtain ⟨z0, z1, z2, z3, z4, z5, z6, z7, z8, z9, rfl⟩ : ∃ z0 z1 z2 z3 z4 z5 z6 z7 z8 z9, xs = [z0, z1, z2, z3, z4, z5, z6, z7, z8, z9] := by
    match xs, hxl2 with
    | [z0, z1, z2, z3, z4, z5, z6, z7, z8, z9], _ => exact ⟨z0, z1, z2, z3, z4, z5, z6, z7, z8, z9, rfl⟩
  obtain ⟨y0, h0, k0⟩ := hf 0 9 0 1 tyStr mStr rfl (by kernel_rfl) (rdm_str Tryz.underlying9) z0 rfl
  obtain ⟨e0, g0⟩ := h0
  replace e0 : [a0] = _ := e0
  simp only [List.cons.injEq, and_true] at e0
  subst e0
  obtain ⟨y1, h1, k1⟩ := hf 1 3 1 1 tyI (fun _ => 1) rfl (by kernel_rfl) (rdm_int Tryz.underlying3) z1 rfl
  obtain ⟨e1, g1⟩ := h1
  replace e1 : [a1] = _ := e1
  simp only [List.cons.injEq, and_true] at e1
  subst e1
  obtain ⟨y2, h2, k2⟩ := hf 2 82 2 1 tyI.sl (mL fun _ => 1) rfl (by kernel_rfl) rdm_82 z2 rfl
  obtain ⟨v2, e2, g2⟩ := h2
  obtain rfl : a2 = v2 := by simpa using e2
  obtain ⟨y3, h3, k3⟩ := hf 3 25 3 1 tyStr.sl (mL mStr) rfl (by kernel_rfl) rdm_25 z3 rfl
  obtain ⟨v3, e3, g3⟩ := h3
  obtain rfl : a3 = v3 := by simpa using e3
  obtain ⟨y4, h4, k4⟩ := hf 4 25 4 1 tyStr.sl (mL mStr) rfl (by kernel_rfl) rdm_25 z4 rfl
  obtain ⟨v4, e4, g4⟩ := h4
  obtain rfl : a4 = v4 := by simpa using e4
  obtain ⟨y5, h5, k5⟩ := hf 5 25 5 1 tyStr.sl (mL mStr) rfl (by kernel_rfl) rdm_25 z5 rfl
  obtain ⟨v5, e5, g5⟩ := h5
  obtain rfl : a5 = v5 := by simpa using e5
  obtain ⟨y6, h6, k6⟩ := hf 6 26 6 1 tyCon.sl (mL mCon) rfl (by kernel_rfl) rdm_26 z6 rfl
  obtain ⟨v6, e6, g6⟩ := h6
  obtain rfl : a6 = v6 := by simpa using e6
  obtain ⟨y7, h7, k7⟩ := hf 7 27 7 1 tyBwd.sl (mL mBwd) rfl (by kernel_rfl) rdm_27 z7 rfl
  obtain ⟨v7, e7, g7⟩ := h7
  obtain rfl : a7 = v7 := by simpa using e7
  obtain ⟨y8, h8, k8⟩ := hf 8 25 8 1 tyStr.sl (mL mStr) rfl (by kernel_rfl) rdm_25 z8 rfl
  obtain ⟨v8, e8, g8⟩ := h8
  obtain rfl : a8 = v8 := by simpa using e8
  obtain ⟨y9, h9, k9⟩ := hf 9 30 9 1 tyAtt.sl (mL mAtt) rfl (by kernel_rfl) rdm_30 z9 rfl
  obtain ⟨v9, e9, g9⟩ := h9
  obtain rfl : a9 = v9 := by simpa using e9
  refine ⟨⟨y0, y1, y2, y3, y4, y5, y6, y7, y8, y9⟩, ⟨_, _, _, _, _, _, _, _, rfl, ⟨g0, g1, g2, g3, g4, g5, g6, g7, g8, g9⟩⟩, ?_⟩
  rw [hxs]
  simp only [List.map_cons, List.map_nil, Rows.uptoBulk, Rows.uptoBulkAll, mMed]
  omega
theorem rdm_31 : RdM tyMed.sl 31 (mL mMed) := rdm_sl Tryz.underlying31 (by kernel_rfl) (by decide) (by kernel_rfl) rdm_med
theorem rdm_org : RdM tyOrg 24 mOrg := fun H enc w base sp held fuel cs x h hz => by
  obtain ⟨xs, hxs, hxl, hl, hf⟩ := rdm_struct Tryz.underlying24 h hz
  have hxl2 : xs.length = 6 := hxl
  have hl2 : cs.length = 6 := hl.trans (by kernel_rfl)
  clear h hz hl hxl
  obtain ⟨a0, a1, a2, a3, a4, a5, rfl⟩ : ∃ a0 a1 a2 a3 a4 a5, cs = [a0, a1, a2, a3, a4, a5] := by
    match cs, hl2 with
    | [a0, a1, a2, a3, a4, a5], _ => exact ⟨a0, a1, a2, a3, a4, a5, rfl⟩
  obtain ⟨z0, z1, z2, z3, z4, z5, rfl⟩ : ∃ z0 z1 z2 z3 z4 z5, xs = [z0, z1, z2, z3, z4, z5] := by
    match xs, hxl2 with
    | [z0, z1, z2, z3, z4, z5], _ => exact ⟨z0, z1, z2, z3, z4, z5, rfl⟩
  obtain ⟨y0, h0, k0⟩ := hf 0 9 0 1 tyStr mStr rfl (by kernel_rfl) (rdm_str Tryz.underlying9) z0 rfl
  obtain ⟨e0, g0⟩ := h0
  replace e0 : [a0] = _ := e0
  simp only [List.cons.injEq, and_true] at e0
  subst e0
  obtain ⟨y1, h1, k1⟩ := hf 1 22 1 1 (tyInt .u64) (fun _ => 1) rfl (by kernel_rfl) (rdm_int Tryz.underlying22) z1 rfl
  obtain ⟨e1, g1⟩ := h1
  replace e1 : [a1] = _ := e1
  simp only [List.cons.injEq, and_true] at e1
  subst e1
  obtain ⟨y2, h2, k2⟩ := hf 2 22 2 1 (tyInt .u64) (fun _ => 1) rfl (by kernel_rfl) (rdm_int Tryz.underlying22) z2 rfl
  obtain ⟨e2, g2⟩ := h2
  replace e2 : [a2] = _ := e2
  simp only [List.cons.injEq, and_true] at e2
  subst e2
  obtain ⟨y3, h3, k3⟩ := hf 3 9 3 1 tyStr mStr rfl (by kernel_rfl) (rdm_str Tryz.underlying9) z3 rfl
  obtain ⟨e3, g3⟩ := h3
  replace e3 : [a3] = _ := e3
  simp only [List.cons.injEq, and_true] at e3
  subst e3
  obtain ⟨y4, h4, k4⟩ := hf 4 9 4 1 tyStr mStr rfl (by kernel_rfl) (rdm_str Tryz.underlying9) z4 rfl
  obtain ⟨e4, g4⟩ := h4
  replace e4 : [a4] = _ := e4
  simp only [List.cons.injEq, and_true] at e4
  subst e4
  obtain ⟨y5, h5, k5⟩ := hf 5 9 5 1 tyStr mStr rfl (by kernel_rfl) (rdm_str Tryz.underlying9) z5 rfl
  obtain ⟨e5, g5⟩ := h5
  replace e5 : [a5] = _ := e5
  simp only [List.cons.injEq, and_true] at e5
  subst e5
  refine ⟨⟨y0, y1, y2, y3, y4, y5⟩, ⟨rfl, g0, g1, g2, g3, g4, g5⟩, ?_⟩
  rw [hxs]
  simp only [List.map_cons, List.map_nil, Rows.uptoBulk, Rows.uptoBulkAll, mOrg]
  omega
theorem rdm_ssn : RdM tySsn 33 mSsn := fun H enc w base sp held fuel cs x h hz => by
  obtain ⟨xs, hxs, hxl, hl, hf⟩ := rdm_struct Tryz.underlying33 h hz
  have hxl2 : xs.length = 14 := hxl
  have hl2 : cs.length = 19 := hl.trans (by kernel_rfl)
  clear h hz hl hxl
  obtain ⟨a0, a1, a2, a3, a4, a5, a6, a7, a8, a9, a10, a11, a12, a13, a14, a15, a16, a17, a18, rfl⟩ : ∃ a0 a1 a2 a3 a4 a5 a6 a7 a8 a9 a10 a11 a12 a13 a14 a15 a16 a17 a18, cs = [a0, a1, a2, a3, a4, a5, a6, a7, a8, a9, a10, a11, a12, a13, a14, a15, a16, a17, a18] := by
    match cs, hl2 with
    | [a0, a1, a2, a3, a4, a5, a6, a7, a8, a9, a10, a11, a12, a13, a14, a15, a16, a17, a18], _ => exact ⟨a0, a1, a2, a3, a4, a5, a6, a7, a8, a9, a10, a11, a12, a13, a14, a15, a16, a17, a18, rfl⟩
  obtain ⟨z0, z1, z2, z3, z4, z5, z6, z7, z8, z9, z10, z11, z12, z13, rfl⟩ : ∃ z0 z1 z2 z3 z4 z5 z6 z7 z8 z9 z10 z11 z12 z13, xs = [z0, z1, z2, z3, z4, z5, z6, z7, z8, z9, z10, z11, z12, z13] := by
    match xs, hxl2 with
    | [z0, z1, z2, z3, z4, z5, z6, z7, z8, z9, z10, z11, z12, z13], _ => exact ⟨z0, z1, z2, z3, z4, z5, z6, z7, z8, z9, z10, z11, z12, z13, rfl⟩
  obtain ⟨y0, h0, k0⟩ := hf 0 3 0 1 tyI (fun _ => 1) rfl (by kernel_rfl) (rdm_int Tryz.underlying3) z0 rfl
  obtain ⟨e0, g0⟩ := h0
  replace e0 : [a0] = _ := e0
  simp only [List.cons.injEq, and_true] at e0
  subst e0
  obtain ⟨y1, h1, k1⟩ := hf 1 24 1 6 tyOrg mOrg rfl (by kernel_rfl) rdm_org z1 rfl
  obtain ⟨e1, g1⟩ := h1
  replace e1 : [a1, a2, a3, a4, a5, a6] = _ := e1
  simp only [List.cons.injEq, and_true] at e1
  obtain ⟨rfl, rfl, rfl, rfl, rfl, rfl⟩ := e1
  obtain ⟨y2, h2, k2⟩ := hf 2 9 7 1 tyStr mStr rfl (by kernel_rfl) (rdm_str Tryz.underlying9) z2 rfl
  obtain ⟨e2, g2⟩ := h2
  replace e2 : [a7] = _ := e2
  simp only [List.cons.injEq, and_true] at e2
  subst e2
  obtain ⟨y3, h3, k3⟩ := hf 3 25 8 1 tyStr.sl (mL mStr) rfl (by kernel_rfl) rdm_25 z3 rfl
  obtain ⟨v3, e3, g3⟩ := h3
  obtain rfl : a8 = v3 := by simpa using e3
  obtain ⟨y4, h4, k4⟩ := hf 4 25 9 1 tyStr.sl (mL mStr) rfl (by kernel_rfl) rdm_25 z4 rfl
  obtain ⟨v4, e4, g4⟩ := h4
  obtain rfl : a9 = v4 := by simpa using e4
  obtain ⟨y5, h5, k5⟩ := hf 5 25 10 1 tyStr.sl (mL mStr) rfl (by kernel_rfl) rdm_25 z5 rfl
  obtain ⟨v5, e5, g5⟩ := h5
  obtain rfl : a10 = v5 := by simpa using e5
  obtain ⟨y6, h6, k6⟩ := hf 6 25 11 1 tyStr.sl (mL mStr) rfl (by kernel_rfl) rdm_25 z6 rfl
  obtain ⟨v6, e6, g6⟩ := h6
  obtain rfl : a11 = v6 := by simpa using e6
  obtain ⟨y7, h7, k7⟩ := hf 7 26 12 1 tyCon.sl (mL mCon) rfl (by kernel_rfl) rdm_26 z7 rfl
  obtain ⟨v7, e7, g7⟩ := h7
  obtain rfl : a12 = v7 := by simpa using e7
  obtain ⟨y8, h8, k8⟩ := hf 8 27 13 1 tyBwd.sl (mL mBwd) rfl (by kernel_rfl) rdm_27 z8 rfl
  obtain ⟨v8, e8, g8⟩ := h8
  obtain rfl : a13 = v8 := by simpa using e8
  obtain ⟨y9, h9, k9⟩ := hf 9 28 14 1 tyTim.sl (mL mTim) rfl (by kernel_rfl) rdm_28 z9 rfl
  obtain ⟨v9, e9, g9⟩ := h9
  obtain rfl : a14 = v9 := by simpa using e9
  obtain ⟨y10, h10, k10⟩ := hf 10 29 15 1 tyZon.sl (mL mZon) rfl (by kernel_rfl) rdm_29 z10 rfl
  obtain ⟨v10, e10, g10⟩ := h10
  obtain rfl : a15 = v10 := by simpa using e10
  obtain ⟨y11, h11, k11⟩ := hf 11 25 16 1 tyStr.sl (mL mStr) rfl (by kernel_rfl) rdm_25 z11 rfl
  obtain ⟨v11, e11, g11⟩ := h11
  obtain rfl : a16 = v11 := by simpa using e11
  obtain ⟨y12, h12, k12⟩ := hf 12 30 17 1 tyAtt.sl (mL mAtt) rfl (by kernel_rfl) rdm_30 z12 rfl
  obtain ⟨v12, e12, g12⟩ := h12
  obtain rfl : a17 = v12 := by simpa using e12
  obtain ⟨y13, h13, k13⟩ := hf 13 31 18 1 tyMed.sl (mL mMed) rfl (by kernel_rfl) rdm_31 z13 rfl
  obtain ⟨v13, e13, g13⟩ := h13
  obtain rfl : a18 = v13 := by simpa using e13
  refine ⟨⟨y0, y1, y2, y3, y4, y5, y6, y7, y8, y9, y10, y11, y12, y13⟩, ⟨_, _, _, _, _, _, _, _, _, _, _, rfl, ⟨g0, g1.1, g1.2.1, g1.2.2.1, g1.2.2.2.1, g1.2.2.2.2.1, g1.2.2.2.2.2, g2, g3, g4, g5, g6, g7, g8, g9, g10, g11, g12, g13⟩⟩, ?_⟩
  rw [hxs]
  simp only [List.map_cons, List.map_nil, Rows.uptoBulk, Rows.uptoBulkAll, mSsn]
  omega
end Go.Proofs.YtcepdjlknalmnaaGreatDoor

/- How long a session's lines are, by how much the session holds. Plain. -/
namespace Go.Proofs.YtcepdjlknalmnaaGreatDoor
open Go.RowKit
set_option linter.unusedSimpArgs false
set_option linter.unusedVariables false

def tot (ls : List (List UInt8)) : Nat := (ls.map (fun l => l.length + 1)).sum
theorem tot_nil : tot [] = 0 := rfl
theorem tot_cons (l : List UInt8) (ls : List (List UInt8)) : tot (l :: ls) = l.length + 1 + tot ls := by simp [tot]
theorem tot_app (a b : List (List UInt8)) : tot (a ++ b) = tot a + tot b := by simp [tot]
theorem tot_flat {α : Type} {f : α → List (List UInt8)} {m : α → Nat} : ∀ (xs : List α), (∀ x ∈ xs, tot (f x) ≤ 50 * m x) → tot (xs.flatMap f) ≤ 50 * (xs.map m).sum
  | [], _ => by simp [tot_nil]
  | x :: xs, h => by
    rw [List.flatMap_cons, tot_app, List.map_cons, List.sum_cons]
    have h1 := h x List.mem_cons_self
    have h2 := tot_flat xs (fun y hy => h y (List.mem_cons_of_mem _ hy))
    omega
theorem tot_map {α : Type} {f : α → List UInt8} {m : α → Nat} : ∀ (xs : List α), (∀ x ∈ xs, (f x).length + 1 ≤ 50 * m x) → tot (xs.map f) ≤ 50 * (xs.map m).sum
  | [], _ => by simp [tot_nil]
  | x :: xs, h => by
    rw [List.map_cons, tot_cons, List.map_cons, List.sum_cons]
    have h1 := h x List.mem_cons_self
    have h2 := tot_map xs (fun y hy => h y (List.mem_cons_of_mem _ hy))
    omega
theorem flat_m {α : Type} {f : α → List UInt8} {m : α → Nat} : ∀ (xs : List α), (∀ x ∈ xs, (f x).length ≤ 50 * m x) → (xs.flatMap f).length ≤ 50 * (xs.map m).sum
  | [], _ => by simp
  | x :: xs, h => by
    rw [List.flatMap_cons, List.length_append, List.map_cons, List.sum_cons]
    have h1 := h x List.mem_cons_self
    have h2 := flat_m xs (fun y hy => h y (List.mem_cons_of_mem _ hy))
    omega
theorem sum_ones {α : Type} (xs : List α) : (xs.map (fun _ => 1)).sum = xs.length := by
  induction xs with
  | nil => rfl
  | cons x xs ih => rw [List.map_cons, List.sum_cons, ih, List.length_cons]; omega
theorem mem_mL {α : Type} {m : α → Nat} {x : α} : ∀ {xs : List α}, x ∈ xs → m x ≤ mL m xs
  | [], h => by cases h
  | y :: xs, h => by
    unfold mL
    rw [List.map_cons, List.sum_cons]
    rcases List.mem_cons.1 h with rfl | h
    · omega
    · have := mem_mL (m := m) h
      unfold mL at this
      omega
theorem join_sum (c : UInt8) : ∀ (xs : List ByteArray), (joinB [c] xs).length ≤ (xs.map mStr).sum
  | [] => by simp [joinB]
  | x :: xs => by
    have h : (xs.flatMap (fun y => [c] ++ bs y)).length ≤ (xs.map mStr).sum := by
      induction xs with
      | nil => simp
      | cons y ys ih =>
        rw [List.flatMap_cons, List.length_append, List.map_cons, List.sum_cons, List.length_append, List.length_singleton, bs_len]
        unfold mStr at ih ⊢
        omega
    simp only [joinB, List.length_append, List.map_cons, List.sum_cons, bs_len]
    unfold mStr at h ⊢
    omega
theorem nums_m (l : List Int) : (numsL l).length ≤ 21 * l.length := by have := nums_len l; omega
theorem adr_m (a : Adr) : (adrL a).length ≤ 50 * mAdr a := by
  have h := nums_m (a.ttl ++ a.rng)
  simp only [List.length_append] at h
  simp only [adrL, List.length_append, List.length_singleton, bs_len, mAdr, mStr, mL, sum_ones]
  omega
theorem con_m (c : Con) : (conL c).length + 1 ≤ 50 * mCon c := by
  have h := flat_m c.adrs (fun a _ => adr_m a)
  simp only [conL, conHd, List.length_append, List.length_cons, List.length_nil, bs_len, mCon, mStr, mL]
  omega
theorem bw_m {b : Bwd} (h : WfInt .u64 b.n) : (bwL b).length + 1 ≤ 50 * mBwd b := by
  have := decu h
  unfold bwL
  simp only [List.length_append, List.length_singleton, bs_len, mBwd, mStr]
  split <;> simp only [List.length_cons, List.length_nil] <;> omega
theorem att_m (a : Att) : (attL a).length + 1 ≤ 50 * mAtt a := by
  rw [att_text]
  unfold attBd
  simp only [List.length_cons, List.length_append, bs_len, mAtt, mStr]
  split <;> simp only [List.length_cons, List.length_nil, bs_len] <;> omega
theorem txt_m (c : UInt8) (xs : List ByteArray) : tot (textB ⟨#[c]⟩ xs) ≤ 50 * (xs.map mStr).sum := by
  rw [text_text]
  refine tot_map xs (fun x _ => ?_)
  simp only [List.length_cons, bs_len, mStr]
  omega
theorem rep_m {r : Rep} (h1 : WfInt .i64 r.ivl) (h2 : WfInt .i64 r.dur) (h3 : ∀ n ∈ r.offs, WfInt .i64 n) : (repL r).length + 1 ≤ 50 * mRep r := by
  have a := sgni h1
  have b := sgni h2
  have c : (offsL r.offs).length ≤ r.offs.length * 22 := flat_len r.offs (fun n hn => by have := sgni (h3 n hn); simp only [List.length_append, List.length_singleton]; omega)
  simp only [repL, List.length_append, List.length_cons, List.length_nil, mRep, mL, sum_ones]
  omega
def TimWf (t : Tim) : Prop := WfInt .u64 t.start ∧ WfInt .u64 t.stop ∧ ∀ r ∈ t.reps, WfInt .i64 r.ivl ∧ WfInt .i64 r.dur ∧ ∀ n ∈ r.offs, WfInt .i64 n
theorem tim_m {t : Tim} (h : TimWf t) : tot (timL t :: t.reps.map repL) ≤ 50 * mTim t := by
  have a := decu h.1
  have b := decu h.2.1
  have c := tot_map (f := repL) (m := mRep) t.reps (fun r hr => rep_m (h.2.2 r hr).1 (h.2.2 r hr).2.1 (h.2.2 r hr).2.2)
  rw [tot_cons]
  simp only [timL, List.length_append, List.length_cons, List.length_nil, mTim, mL]
  omega
theorem zonesW_len (zs : List Zon) : (zonesW zs).length = 2 * zs.length := by
  unfold zonesW
  induction zs with
  | nil => rfl
  | cons z zs ih =>
    rw [List.flatMap_cons, List.length_append, ih, List.length_cons]
    simp only [List.length_cons, List.length_nil]
    omega
theorem zon_m {zs : List Zon} (h : ∀ z ∈ zs, WfInt .u64 z.time ∧ WfInt .i64 z.off) : tot (zonesLs zs) ≤ 50 * mL mZon zs := by
  have hs : (zs.map mZon).sum = 2 * zs.length := by
    clear h
    induction zs with
    | nil => rfl
    | cons z zs ih => rw [List.map_cons, List.sum_cons, ih, List.length_cons]; unfold mZon; omega
  unfold zonesLs
  split
  · rw [tot_nil]; omega
  · have hj := join_len (sep := [32]) (n := 21) ((zonesW zs).map mk) (fun y hy => by
      obtain ⟨l, hl, rfl⟩ := List.mem_map.1 hy
      unfold zonesW at hl
      obtain ⟨z, hz, hl⟩ := List.mem_flatMap.1 hl
      have h1 := decu (h z hz).1
      have h2 := sgni (h z hz).2
      rw [mk_size]
      simp only [List.mem_cons, List.not_mem_nil, or_false] at hl
      rcases hl with rfl | rfl <;> omega)
    rw [List.length_map, zonesW_len] at hj
    rw [tot_cons, tot_nil]
    simp only [zonesL, List.length_append, List.length_cons, List.length_nil, mL, hs] at hj ⊢
    omega
theorem med_m {m : Med} (h : ∀ b ∈ m.bws, WfInt .u64 b.n) : tot (medLs m) ≤ 50 * mMed m := by
  have a := nums_m m.ports
  have b := dec20 m.port
  have c := join_sum 47 m.protos
  have d := join_sum 32 m.fmts
  have e := txt_m 105 m.title
  have f := tot_map (f := conL) (m := mCon) m.conn (fun c _ => con_m c)
  have g := tot_map (f := bwL) (m := mBwd) m.bws (fun b hb => bw_m (h b hb))
  have i := txt_m 107 m.key
  have j := tot_map (f := attL) (m := mAtt) m.atts (fun a _ => att_m a)
  have k : (medL m).length + 1 ≤ 50 * (mStr m.name + 1 + mL (fun _ => 1) m.ports + mL mStr m.protos + mL mStr m.fmts) := by
    simp only [medL, portL, List.length_append, List.length_cons, List.length_nil, bs_len, mStr, mL, sum_ones]
    omega
  unfold medLs sharedL
  simp only [tot_app, tot_cons, tot_nil, mMed]
  simp only [mL] at k ⊢
  omega
theorem lines_m {x : Ssn} {w : World} {v0 v1 v2 v3 v4 v5 v6 v7 v8 v9 v10 : Value} (m : SsnAt w x v0 v1 v2 v3 v4 v5 v6 v7 v8 v9 v10) : tot (linesB x) ≤ 50 * mSsn x := by
  have ht : ∀ t ∈ x.times, TimWf t := fun t ht => by
    obtain ⟨cs, v, _, h1, h2, h3⟩ := Ty.Sl_mem m.times t ht
    refine ⟨h1, h2, fun r hr => ?_⟩
    obtain ⟨cs, v, _, h4, h5, h6⟩ := Ty.Sl_mem h3 r hr
    refine ⟨h4, h5, fun o ho => ?_⟩
    obtain ⟨cs, _, h7⟩ := Ty.Sl_mem h6 o ho
    exact h7
  have hz : ∀ z ∈ x.zones, WfInt .u64 z.time ∧ WfInt .i64 z.off := fun z hz => by
    obtain ⟨cs, _, h1, h2⟩ := Ty.Sl_mem m.zones z hz
    exact ⟨h1, h2⟩
  have hm : ∀ y ∈ x.media, ∀ b ∈ y.bws, WfInt .u64 b.n := fun y hy => by
    obtain ⟨cs, p0, p1, p2, p3, p4, p5, p6, p7, _, mm⟩ := Ty.Sl_mem m.media y hy
    exact bwd_wf mm.bws
  have a1 := sgni m.ver
  have a2 := decu m.oid
  have a3 := decu m.over
  have b1 := txt_m 105 x.info
  have b2 := txt_m 117 x.uri
  have b3 := txt_m 101 x.email
  have b4 := txt_m 112 x.phone
  have b5 := tot_map (f := conL) (m := mCon) x.conn (fun c _ => con_m c)
  have b6 := tot_map (f := bwL) (m := mBwd) x.bws (fun b hb => bw_m (bwd_wf m.bws b hb))
  have b7 := tot_flat (f := fun t => timL t :: t.reps.map repL) (m := mTim) x.times (fun t h => tim_m (ht t h))
  have b8 := zon_m hz
  have b9 := txt_m 107 x.key
  have c1 := tot_map (f := attL) (m := mAtt) x.atts (fun a _ => att_m a)
  have c2 := tot_flat (f := medLs) (m := mMed) x.media (fun y hy => med_m (hm y hy))
  have hh : tot (headLs x) ≤ 50 * (1 + mOrg x.org + mStr x.name) := by
    simp only [headLs, tot_cons, tot_nil, verL, orgL, nameL, List.length_append, List.length_cons, List.length_nil, bs_len, mOrg, mStr]
    omega
  unfold linesB sessLs sharedL timeLs
  simp only [tot_app, mSsn]
  simp only [mL] at b8 ⊢
  omega
theorem tot_mem {ls : List (List UInt8)} {l : List UInt8} (h : l ∈ ls) : l.length + 1 ≤ tot ls := by
  induction ls with
  | nil => cases h
  | cons y ys ih =>
    rw [tot_cons]
    rcases List.mem_cons.1 h with rfl | h
    · omega
    · have := ih h; omega
theorem tot_len (ls : List (List UInt8)) : ls.length ≤ tot ls := by
  induction ls with
  | nil => exact Nat.zero_le _
  | cons y ys ih => rw [tot_cons, List.length_cons]; omega
theorem tot_ends (e : List UInt8) (he : e.length ≤ 2) (ls : List (List UInt8)) : (joinEnds e ls).length ≤ 2 * tot ls := by
  unfold joinEnds
  induction ls with
  | nil => simp
  | cons y ys ih =>
    rw [List.flatMap_cons, List.length_append, List.length_append, tot_cons]
    omega
/-- What spec.Lines asks of sizes. -/
theorem bulk_lns {x : Ssn} {w : World} {v0 v1 v2 v3 v4 v5 v6 v7 v8 v9 v10 : Value} (m : SsnAt w x v0 v1 v2 v3 v4 v5 v6 v7 v8 v9 v10) (hb : mSsn x ≤ 1048576) : Lns (linesB x) ∧ ConSz x.conn ∧ ∀ y ∈ x.media, ConSz y.conn := by
  have h := lines_m m
  have hc : ∀ xs : List Con, mL mCon xs ≤ 1048576 → ConSz xs := fun xs hx c hc a ha => by
    have h1 := mem_mL (m := mCon) hc
    have h2 := mem_mL (m := mAdr) ha
    simp only [mCon, mAdr, mL, sum_ones] at h1 h2 hx
    omega
  refine ⟨⟨by have := tot_len (linesB x); omega, fun l hl => by have := tot_mem hl; unfold strMax; omega⟩, hc _ (by unfold mSsn at hb; omega), fun y hy => hc _ ?_⟩
  have h1 := mem_mL (m := mMed) hy
  have h2 : mL mCon y.conn ≤ mMed y := by unfold mMed; omega
  unfold mSsn at hb
  omega
end Go.Proofs.YtcepdjlknalmnaaGreatDoor

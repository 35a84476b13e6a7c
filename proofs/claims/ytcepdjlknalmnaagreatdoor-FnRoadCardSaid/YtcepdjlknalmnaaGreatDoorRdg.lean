/- Laws of this claim. -/
import Derived.Test.YtcepdjlknalmnaaGreatDoorLexB
import Derived.ProofKit
import Derived.SizedLaws
import Derived.ChangeArms
import Derived.Test.YtcepdjlknalmnaaGreatDoorRows
import Derived.Test.YtcepdjlknalmnaaGreatDoorTie
import Derived.Test.YtcepdjlknalmnaaGreatDoorCards
import Derived.OpenShut
import Derived.Deep.DeepHandedRow
import Derived.Deep.DeepWitnessRowRef
import Derived.Lib.LaidTab
import Derived.Lib.LaidIn
import Derived.Stop.LaidErr
import Derived.ChangeMaps5
set_option linter.unusedSimpArgs false
set_option linter.unusedVariables false
namespace Go.Proofs.YtcepdjlknalmnaaGreatDoor
open Go.RowKit
def Rd {α : Type} (T : Ty α) (t : TypeId) : Prop := ∀ (H : Type) (enc : TypeId × Value -> H) (w : World) (base : Nat) (sp : Nat -> Bool) (held : Bool) (fuel : Nat) (cs : List Value) (x : DataW H × List MemPlace),
 DataW.trod enc Tryz.prog w base sp held fuel t cs = some x -> (∀ n ∈ x.1.weights Tryz.prog t, n <= reachBytes) -> ∃ y, T.rel w y cs
theorem qNh : reachBytes <= 140737488355328 := by decide
theorem qEx {t : TypeId} (ht : Tryz.prog.underlying t = some .string) : Rd qAd t := fun H enc w base sp held fuel cs x h hz => by
 obtain ⟨s, rfl, rfl, hs⟩ := DataW.trod_string ht h
 have := hz s.data.toList.length (by simp [DataW.weights])
 have h2 := qNh
 exact ⟨s, rfl, by unfold qAb qBj; simp at this; omega⟩
theorem qEy {t : TypeId} {k : IntKind} (ht : Tryz.prog.underlying t = some (.int k)) : Rd (qCn k) t := fun H enc w base sp held fuel cs x h hz => by
 obtain ⟨n, rfl, rfl, hs⟩ := DataW.trod_int ht h
 exact ⟨n, rfl, by unfold Lit.wf at hs; unfold qAg; simpa using hs⟩
theorem qMd {H : Type} {e : TypeId} {l : List (DataW H)} {d : DataW H} (hd : d ∈ l) : ∀ n ∈ d.weights Tryz.prog e, n ∈ DataW.weightsAll Tryz.prog e l := fun n hn => by
 induction l with
 | nil => cases hd
 | cons a l ih =>
  simp only [DataW.weightsAll, List.mem_append]
  rcases List.mem_cons.1 hd with rfl | hd
  · exact .inl hn
  exact .inr (ih hd)
theorem qIv {α : Type} {T : Ty α} {t e : TypeId} (ht : Tryz.prog.underlying t = some (.slice e)) (hc : Tryz.prog.cellsOf e = T.sz) (hp : 0 < T.sz) (hb1 : Nat.ble 1 (Tryz.prog.bytesOf e) = true) (hT : Rd T e) : Rd T.sl t := fun H enc w base sp held fuel cs x h hz => by
 have hb := Nat.le_of_ble_eq_true hb1
 rcases DataW.trod_slice ht h with ⟨rfl, rfl⟩ | ⟨a, len, cap, elems, rest, n, rfl, rfl, rfl, hba, hlc, hcm, hel, hget, _, _⟩
 · exact ⟨[], _, rfl, Ty.Sl_nil _ _⟩
 have hw := hz ((elems.length + rest.length) * Tryz.prog.bytesOf e) (by simp [DataW.weights, ht])
 have hlen : len <= 140737488355328 := by
  have h2 := qNh
  have h3 : (elems.length + rest.length) * 1 <= (elems.length + rest.length) * Tryz.prog.bytesOf e := Nat.mul_le_mul_left _ hb
  omega
 have hex : ∀ m, m <= len -> ∃ ys : List α, ys.length = m /\ ∀ (i : Nat) y, ys[i]? = some y -> ∃ cs, T.rel w y cs /\ w.cells? base (a.add (i * T.sz)) T.sz = some cs := by
  intro m
  induction m with
  | zero => exact fun _ => ⟨[], rfl, fun i y hy => by simp at hy⟩
  | succ m ih =>
   intro hm
   obtain ⟨ys, hl, hy⟩ := ih (by omega)
   have hg := hget m (by omega)
   rw [List.getElem?_eq_getElem (by omega : m < elems.length)] at hg
   obtain ⟨cs, h1, h2⟩ := Option.bind_eq_some_iff.1 hg
   obtain ⟨y, hr⟩ := hT H enc w base sp held n cs _ h2 (fun k hk => hz k (by
    simp only [DataW.weights, ht, List.mem_cons, List.mem_append]
    exact .inr (.inl (qMd (List.mem_map.2 ⟨_, List.getElem_mem _, rfl⟩) k hk))))
   refine ⟨ys ++ [y], by simp [hl], fun i y' hy' => ?_⟩
   rcases Nat.lt_or_ge i ys.length with hlt | hge
   · rw [List.getElem?_append_left hlt] at hy'; exact hy i y' hy'
   have hi : i = m := by have := (List.getElem?_eq_some_iff.1 hy').1; simp at this; omega
   subst hi
   rw [List.getElem?_append_right hge, hl, Nat.sub_self] at hy'
   obtain rfl : y = y' := by simpa using hy'
   exact ⟨cs, hr, by rw [hc] at h1; exact h1⟩
 obtain ⟨ys, hl, hy⟩ := hex len (Nat.le_refl _)
 refine ⟨ys, _, rfl, by omega, ?_⟩
 rcases Nat.eq_zero_or_pos len with h0 | h0
 · left
   subst h0
   exact ⟨List.eq_nil_of_length_eq_zero hl, some a, cap, rfl, fun e => by cases e⟩
 right
 obtain ⟨cs0, hr0, hc0⟩ := hy 0 _ (List.getElem?_eq_getElem (by omega : 0 < ys.length))
 obtain ⟨_, hl0, hg0⟩ := World.cells?_some hc0
 have h1 := hg0 0 hp
 rw [List.getElem?_eq_getElem (by omega : 0 < cs0.length)] at h1
 have hsp : a.spot = none := by
  rw [Nat.zero_mul] at h1
  have e : (a.add 0).add 0 = a := by simp [Addr.add]
  rw [e] at h1
  unfold World.cell? at h1
  split at h1
  · split at h1
    · cases h1
    rename_i hn; simpa using hn
  cases h1
 obtain ⟨b, o, spot⟩ := a
 subst hsp
 refine ⟨by omega, b, o, cap, by rw [hl], by omega, fun k y hk => ?_⟩
 obtain ⟨cs, hr, hcs⟩ := hy k y hk
 obtain ⟨_, hlc2, hg⟩ := World.cells?_some hcs
 refine ⟨cs, hr, fun j u hu => ?_⟩
 have hj : j < cs.length := (List.getElem?_eq_some_iff.1 hu).1
 rw [<- qE1 b (o + k * T.sz) j, <- qE1 b o (k * T.sz), hg j (by omega), hu]
def tyB : Ty Bool := Ty.flat 1 (fun b => [.bool b]) (fun _ => True) (fun _ => rfl) (fun _ u hu => by rw [List.mem_singleton.1 hu]; rfl)
theorem rd_b : Rd tyB 4 := fun H enc w base sp held fuel cs x h hz => by
 obtain ⟨b, rfl, rfl⟩ := DataW.trod_bool Tryz.underlying4 h
 exact ⟨b, rfl, trivial⟩
def tyOrg : Ty Org := Ty.flat 6 (fun o => [.string o.user, .int .u64 o.id, .int .u64 o.ver, .string o.net, .string o.addr, .string o.adr]) (fun o => qAb o.user /\ qAg .u64 o.id /\ qAg .u64 o.ver /\ qAb o.net /\ qAb o.addr /\ qAb o.adr) (fun _ => rfl) (fun _ u hu => by
 simp only [List.mem_cons, List.not_mem_nil, or_false] at hu
 rcases hu with rfl | rfl | rfl | rfl | rfl | rfl <;> rfl)
def tySsn : Ty Ssn where
 sz := 19
 rel := fun w x cs => ∃ v0 v1 v2 v3 v4 v5 v6 v7 v8 v9 v10, cs = [.int .i64 x.ver, .string x.org.user, .int .u64 x.org.id, .int .u64 x.org.ver, .string x.org.net, .string x.org.addr, .string x.org.adr, .string x.name, v0, v1, v2, v3, v4, v5, v6, v7, v8, v9, v10] /\ SsnAt w x v0 v1 v2 v3 v4 v5 v6 v7 v8 v9 v10
 len := by rintro w x cs ⟨v0, v1, v2, v3, v4, v5, v6, v7, v8, v9, v10, rfl, _⟩; rfl
 one := by
  rintro w x cs ⟨v0, v1, v2, v3, v4, v5, v6, v7, v8, v9, v10, rfl, m⟩ u hu
  simp only [List.mem_cons, List.not_mem_nil, or_false] at hu
  rcases hu with rfl | rfl | rfl | rfl | rfl | rfl | rfl | rfl | rfl | rfl | rfl | rfl | rfl | rfl | rfl | rfl | rfl | rfl | rfl
  all_goals first | exact rfl | exact qBg m.info | exact qBg m.uri | exact qBg m.email | exact qBg m.phone | exact qBg m.conn | exact qBg m.bws | exact qBg m.times | exact qBg m.zones | exact qBg m.key | exact qBg m.atts | exact qBg m.media
 loc := by
  rintro w w' x cs h ⟨v0, v1, v2, v3, v4, v5, v6, v7, v8, v9, v10, rfl, m⟩
  exact ⟨v0, v1, v2, v3, v4, v5, v6, v7, v8, v9, v10, rfl, m.loc h⟩
theorem qCp {H : Type} {enc : TypeId × Value -> H} {w : World} {base : Nat} {sp : Nat -> Bool} {held : Bool} {fuel : Nat} {t : TypeId} {fs : Array Field} {cs : List Value} {x : DataW H × List MemPlace} (ht : Tryz.prog.underlying t = some (.struct fs))
 (h : DataW.trod enc Tryz.prog w base sp held fuel t cs = some x) (hz : ∀ n ∈ x.1.weights Tryz.prog t, n <= reachBytes) :
 cs.length = Tryz.prog.cellsOf t /\ ∀ (i : Nat) (t' off n : Nat) {α : Type} (T : Ty α), (fs[i]?).map (fun f => (f.type, f.offset)) = some (t', off) -> Tryz.prog.cellsOf t' = n -> Rd T t' -> ∃ y, T.rel w y ((cs.drop off).take n) := by
 obtain ⟨xs, n0, rfl, rfl, hl, hx, hf⟩ := DataW.trod_struct ht h
 refine ⟨hl, fun i t' off n α T hi hn hT => ?_⟩
 obtain ⟨f, hfi, he⟩ := Option.map_eq_some_iff.1 hi
 simp only [Prod.mk.injEq] at he
 obtain ⟨rfl, rfl⟩ := he
 subst hn
 have hlt : i < xs.length := by rw [hx]; exact (Array.getElem?_eq_some_iff.1 hfi).1
 have h1 := hf i f hfi
 rw [List.getElem?_eq_getElem hlt] at h1
 refine hT H enc w base sp held n0 _ _ h1 (fun k hk => hz k ?_)
 simp only [DataW.weights, ht]
 exact DataW.weights_mem_each (j := i) (t := f.type) (d := xs[i].1) (by rw [List.getElem?_map, Array.getElem?_toList, hfi]; rfl) (by rw [List.getElem?_map, List.getElem?_eq_getElem hlt]; rfl) k hk
theorem qJ9 : Rd qAd.sl 25 := qIv Tryz.underlying25 (by kernel_rfl) (by decide) (by kernel_rfl) (qEx Tryz.underlying9)
theorem rd_82 : Rd tyI.sl 82 := qIv Tryz.underlying82 (by kernel_rfl) (by decide) (by kernel_rfl) (qEy Tryz.underlying3)
theorem rd_75 : Rd tyI.sl 75 := qIv Tryz.underlying75 (by kernel_rfl) (by decide) (by kernel_rfl) (qEy Tryz.underlying2)
theorem rd_adr : Rd qE2 145 := fun H enc w base sp held fuel cs x h hz => by
 obtain ⟨hl, hf⟩ := qCp Tryz.underlying145 h hz
 have hl2 : cs.length = 3 := hl.trans (by kernel_rfl)
 clear h hz hl
 obtain ⟨a0, a1, a2, rfl⟩ : ∃ a0 a1 a2, cs = [a0, a1, a2] := by
  match cs, hl2 with
  | [a0, a1, a2], _ => exact ⟨a0, a1, a2, rfl⟩
 obtain ⟨y0, h0⟩ := hf 0 9 0 1 qAd rfl (by kernel_rfl) (qEx Tryz.underlying9)
 obtain ⟨e0, g0⟩ := h0
 replace e0 : [a0] = _ := e0
 simp only [List.cons.injEq, and_true] at e0
 subst e0
 obtain ⟨y1, h1⟩ := hf 1 82 1 1 tyI.sl rfl (by kernel_rfl) rd_82
 obtain ⟨v1, e1, g1⟩ := h1
 obtain rfl : a1 = v1 := by simpa using e1
 obtain ⟨y2, h2⟩ := hf 2 82 2 1 tyI.sl rfl (by kernel_rfl) rd_82
 obtain ⟨v2, e2, g2⟩ := h2
 obtain rfl : a2 = v2 := by simpa using e2
 exact ⟨⟨y0, y1, y2⟩, _, _, rfl, g0, g1, g2⟩
theorem rd_133 : Rd qE2.sl 133 := qIv Tryz.underlying133 (by kernel_rfl) (by decide) (by kernel_rfl) rd_adr
theorem rd_con : Rd qC0 135 := fun H enc w base sp held fuel cs x h hz => by
 obtain ⟨hl, hf⟩ := qCp Tryz.underlying135 h hz
 have hl2 : cs.length = 3 := hl.trans (by kernel_rfl)
 clear h hz hl
 obtain ⟨a0, a1, a2, rfl⟩ : ∃ a0 a1 a2, cs = [a0, a1, a2] := by
  match cs, hl2 with
  | [a0, a1, a2], _ => exact ⟨a0, a1, a2, rfl⟩
 obtain ⟨y0, h0⟩ := hf 0 9 0 1 qAd rfl (by kernel_rfl) (qEx Tryz.underlying9)
 obtain ⟨e0, g0⟩ := h0
 replace e0 : [a0] = _ := e0
 simp only [List.cons.injEq, and_true] at e0
 subst e0
 obtain ⟨y1, h1⟩ := hf 1 9 1 1 qAd rfl (by kernel_rfl) (qEx Tryz.underlying9)
 obtain ⟨e1, g1⟩ := h1
 replace e1 : [a1] = _ := e1
 simp only [List.cons.injEq, and_true] at e1
 subst e1
 obtain ⟨y2, h2⟩ := hf 2 133 2 1 qE2.sl rfl (by kernel_rfl) rd_133
 obtain ⟨v2, e2, g2⟩ := h2
 obtain rfl : a2 = v2 := by simpa using e2
 exact ⟨⟨y0, y1, y2⟩, _, rfl, g0, g1, g2⟩
theorem rd_26 : Rd qC0.sl 26 := qIv Tryz.underlying26 (by kernel_rfl) (by decide) (by kernel_rfl) rd_con
theorem rd_bwd : Rd qBx 138 := fun H enc w base sp held fuel cs x h hz => by
 obtain ⟨hl, hf⟩ := qCp Tryz.underlying138 h hz
 have hl2 : cs.length = 3 := hl.trans (by kernel_rfl)
 clear h hz hl
 obtain ⟨a0, a1, a2, rfl⟩ : ∃ a0 a1 a2, cs = [a0, a1, a2] := by
  match cs, hl2 with
  | [a0, a1, a2], _ => exact ⟨a0, a1, a2, rfl⟩
 obtain ⟨y0, h0⟩ := hf 0 4 0 1 tyB rfl (by kernel_rfl) rd_b
 obtain ⟨e0, g0⟩ := h0
 replace e0 : [a0] = _ := e0
 simp only [List.cons.injEq, and_true] at e0
 subst e0
 obtain ⟨y1, h1⟩ := hf 1 9 1 1 qAd rfl (by kernel_rfl) (qEx Tryz.underlying9)
 obtain ⟨e1, g1⟩ := h1
 replace e1 : [a1] = _ := e1
 simp only [List.cons.injEq, and_true] at e1
 subst e1
 obtain ⟨y2, h2⟩ := hf 2 22 2 1 (qCn .u64) rfl (by kernel_rfl) (qEy Tryz.underlying22)
 obtain ⟨e2, g2⟩ := h2
 replace e2 : [a2] = _ := e2
 simp only [List.cons.injEq, and_true] at e2
 subst e2
 exact ⟨⟨y0, y1, y2⟩, rfl, g1, g2⟩
theorem rd_27 : Rd qBx.sl 27 := qIv Tryz.underlying27 (by kernel_rfl) (by decide) (by kernel_rfl) rd_bwd
theorem rd_rep : Rd qDc 77 := fun H enc w base sp held fuel cs x h hz => by
 obtain ⟨hl, hf⟩ := qCp Tryz.underlying77 h hz
 have hl2 : cs.length = 3 := hl.trans (by kernel_rfl)
 clear h hz hl
 obtain ⟨a0, a1, a2, rfl⟩ : ∃ a0 a1 a2, cs = [a0, a1, a2] := by
  match cs, hl2 with
  | [a0, a1, a2], _ => exact ⟨a0, a1, a2, rfl⟩
 obtain ⟨y0, h0⟩ := hf 0 2 0 1 tyI rfl (by kernel_rfl) (qEy Tryz.underlying2)
 obtain ⟨e0, g0⟩ := h0
 replace e0 : [a0] = _ := e0
 simp only [List.cons.injEq, and_true] at e0
 subst e0
 obtain ⟨y1, h1⟩ := hf 1 2 1 1 tyI rfl (by kernel_rfl) (qEy Tryz.underlying2)
 obtain ⟨e1, g1⟩ := h1
 replace e1 : [a1] = _ := e1
 simp only [List.cons.injEq, and_true] at e1
 subst e1
 obtain ⟨y2, h2⟩ := hf 2 75 2 1 tyI.sl rfl (by kernel_rfl) rd_75
 obtain ⟨v2, e2, g2⟩ := h2
 obtain rfl : a2 = v2 := by simpa using e2
 exact ⟨⟨y0, y1, y2⟩, _, rfl, g0, g1, g2⟩
theorem rd_69 : Rd qDc.sl 69 := qIv Tryz.underlying69 (by kernel_rfl) (by decide) (by kernel_rfl) rd_rep
theorem rd_tim : Rd qCc 71 := fun H enc w base sp held fuel cs x h hz => by
 obtain ⟨hl, hf⟩ := qCp Tryz.underlying71 h hz
 have hl2 : cs.length = 3 := hl.trans (by kernel_rfl)
 clear h hz hl
 obtain ⟨a0, a1, a2, rfl⟩ : ∃ a0 a1 a2, cs = [a0, a1, a2] := by
  match cs, hl2 with
  | [a0, a1, a2], _ => exact ⟨a0, a1, a2, rfl⟩
 obtain ⟨y0, h0⟩ := hf 0 22 0 1 (qCn .u64) rfl (by kernel_rfl) (qEy Tryz.underlying22)
 obtain ⟨e0, g0⟩ := h0
 replace e0 : [a0] = _ := e0
 simp only [List.cons.injEq, and_true] at e0
 subst e0
 obtain ⟨y1, h1⟩ := hf 1 22 1 1 (qCn .u64) rfl (by kernel_rfl) (qEy Tryz.underlying22)
 obtain ⟨e1, g1⟩ := h1
 replace e1 : [a1] = _ := e1
 simp only [List.cons.injEq, and_true] at e1
 subst e1
 obtain ⟨y2, h2⟩ := hf 2 69 2 1 qDc.sl rfl (by kernel_rfl) rd_69
 obtain ⟨v2, e2, g2⟩ := h2
 obtain rfl : a2 = v2 := by simpa using e2
 exact ⟨⟨y0, y1, y2⟩, _, rfl, g0, g1, g2⟩
theorem rd_28 : Rd qCc.sl 28 := qIv Tryz.underlying28 (by kernel_rfl) (by decide) (by kernel_rfl) rd_tim
theorem rd_zon : Rd qDt 80 := fun H enc w base sp held fuel cs x h hz => by
 obtain ⟨hl, hf⟩ := qCp Tryz.underlying80 h hz
 have hl2 : cs.length = 2 := hl.trans (by kernel_rfl)
 clear h hz hl
 obtain ⟨a0, a1, rfl⟩ : ∃ a0 a1, cs = [a0, a1] := by
  match cs, hl2 with
  | [a0, a1], _ => exact ⟨a0, a1, rfl⟩
 obtain ⟨y0, h0⟩ := hf 0 22 0 1 (qCn .u64) rfl (by kernel_rfl) (qEy Tryz.underlying22)
 obtain ⟨e0, g0⟩ := h0
 replace e0 : [a0] = _ := e0
 simp only [List.cons.injEq, and_true] at e0
 subst e0
 obtain ⟨y1, h1⟩ := hf 1 2 1 1 tyI rfl (by kernel_rfl) (qEy Tryz.underlying2)
 obtain ⟨e1, g1⟩ := h1
 replace e1 : [a1] = _ := e1
 simp only [List.cons.injEq, and_true] at e1
 subst e1
 exact ⟨⟨y0, y1⟩, rfl, g0, g1⟩
theorem rd_29 : Rd qDt.sl 29 := qIv Tryz.underlying29 (by kernel_rfl) (by decide) (by kernel_rfl) rd_zon
theorem rd_att : Rd qBy 142 := fun H enc w base sp held fuel cs x h hz => by
 obtain ⟨hl, hf⟩ := qCp Tryz.underlying142 h hz
 have hl2 : cs.length = 2 := hl.trans (by kernel_rfl)
 clear h hz hl
 obtain ⟨a0, a1, rfl⟩ : ∃ a0 a1, cs = [a0, a1] := by
  match cs, hl2 with
  | [a0, a1], _ => exact ⟨a0, a1, rfl⟩
 obtain ⟨y0, h0⟩ := hf 0 9 0 1 qAd rfl (by kernel_rfl) (qEx Tryz.underlying9)
 obtain ⟨e0, g0⟩ := h0
 replace e0 : [a0] = _ := e0
 simp only [List.cons.injEq, and_true] at e0
 subst e0
 obtain ⟨y1, h1⟩ := hf 1 9 1 1 qAd rfl (by kernel_rfl) (qEx Tryz.underlying9)
 obtain ⟨e1, g1⟩ := h1
 replace e1 : [a1] = _ := e1
 simp only [List.cons.injEq, and_true] at e1
 subst e1
 exact ⟨⟨y0, y1⟩, rfl, g0, g1⟩
theorem rd_30 : Rd qBy.sl 30 := qIv Tryz.underlying30 (by kernel_rfl) (by decide) (by kernel_rfl) rd_att
theorem rd_med : Rd qEj 84 := fun H enc w base sp held fuel cs x h hz => by
 obtain ⟨hl, hf⟩ := qCp Tryz.underlying84 h hz
 have hl2 : cs.length = 10 := hl.trans (by kernel_rfl)
 clear h hz hl
 obtain ⟨a0, a1, a2, a3, a4, a5, a6, a7, a8, a9, rfl⟩ : ∃ a0 a1 a2 a3 a4 a5 a6 a7 a8 a9, cs = [a0, a1, a2, a3, a4, a5, a6, a7, a8, a9] := by
  match cs, hl2 with
  | [a0, a1, a2, a3, a4, a5, a6, a7, a8, a9], _ => exact ⟨a0, a1, a2, a3, a4, a5, a6, a7, a8, a9, rfl⟩
 obtain ⟨y0, h0⟩ := hf 0 9 0 1 qAd rfl (by kernel_rfl) (qEx Tryz.underlying9)
 obtain ⟨e0, g0⟩ := h0
 replace e0 : [a0] = _ := e0
 simp only [List.cons.injEq, and_true] at e0
 subst e0
 obtain ⟨y1, h1⟩ := hf 1 3 1 1 tyI rfl (by kernel_rfl) (qEy Tryz.underlying3)
 obtain ⟨e1, g1⟩ := h1
 replace e1 : [a1] = _ := e1
 simp only [List.cons.injEq, and_true] at e1
 subst e1
 obtain ⟨y2, h2⟩ := hf 2 82 2 1 tyI.sl rfl (by kernel_rfl) rd_82
 obtain ⟨v2, e2, g2⟩ := h2
 obtain rfl : a2 = v2 := by simpa using e2
 obtain ⟨y3, h3⟩ := hf 3 25 3 1 qAd.sl rfl (by kernel_rfl) qJ9
 obtain ⟨v3, e3, g3⟩ := h3
 obtain rfl : a3 = v3 := by simpa using e3
 obtain ⟨y4, h4⟩ := hf 4 25 4 1 qAd.sl rfl (by kernel_rfl) qJ9
 obtain ⟨v4, e4, g4⟩ := h4
 obtain rfl : a4 = v4 := by simpa using e4
 obtain ⟨y5, h5⟩ := hf 5 25 5 1 qAd.sl rfl (by kernel_rfl) qJ9
 obtain ⟨v5, e5, g5⟩ := h5
 obtain rfl : a5 = v5 := by simpa using e5
 obtain ⟨y6, h6⟩ := hf 6 26 6 1 qC0.sl rfl (by kernel_rfl) rd_26
 obtain ⟨v6, e6, g6⟩ := h6
 obtain rfl : a6 = v6 := by simpa using e6
 obtain ⟨y7, h7⟩ := hf 7 27 7 1 qBx.sl rfl (by kernel_rfl) rd_27
 obtain ⟨v7, e7, g7⟩ := h7
 obtain rfl : a7 = v7 := by simpa using e7
 obtain ⟨y8, h8⟩ := hf 8 25 8 1 qAd.sl rfl (by kernel_rfl) qJ9
 obtain ⟨v8, e8, g8⟩ := h8
 obtain rfl : a8 = v8 := by simpa using e8
 obtain ⟨y9, h9⟩ := hf 9 30 9 1 qBy.sl rfl (by kernel_rfl) rd_30
 obtain ⟨v9, e9, g9⟩ := h9
 obtain rfl : a9 = v9 := by simpa using e9
 exact ⟨⟨y0, y1, y2, y3, y4, y5, y6, y7, y8, y9⟩, _, _, _, _, _, _, _, _, rfl, ⟨g0, g1, g2, g3, g4, g5, g6, g7, g8, g9⟩⟩
theorem rd_31 : Rd qEj.sl 31 := qIv Tryz.underlying31 (by kernel_rfl) (by decide) (by kernel_rfl) rd_med
theorem rd_org : Rd tyOrg 24 := fun H enc w base sp held fuel cs x h hz => by
 obtain ⟨hl, hf⟩ := qCp Tryz.underlying24 h hz
 have hl2 : cs.length = 6 := hl.trans (by kernel_rfl)
 clear h hz hl
 obtain ⟨a0, a1, a2, a3, a4, a5, rfl⟩ : ∃ a0 a1 a2 a3 a4 a5, cs = [a0, a1, a2, a3, a4, a5] := by
  match cs, hl2 with
  | [a0, a1, a2, a3, a4, a5], _ => exact ⟨a0, a1, a2, a3, a4, a5, rfl⟩
 obtain ⟨y0, h0⟩ := hf 0 9 0 1 qAd rfl (by kernel_rfl) (qEx Tryz.underlying9)
 obtain ⟨e0, g0⟩ := h0
 replace e0 : [a0] = _ := e0
 simp only [List.cons.injEq, and_true] at e0
 subst e0
 obtain ⟨y1, h1⟩ := hf 1 22 1 1 (qCn .u64) rfl (by kernel_rfl) (qEy Tryz.underlying22)
 obtain ⟨e1, g1⟩ := h1
 replace e1 : [a1] = _ := e1
 simp only [List.cons.injEq, and_true] at e1
 subst e1
 obtain ⟨y2, h2⟩ := hf 2 22 2 1 (qCn .u64) rfl (by kernel_rfl) (qEy Tryz.underlying22)
 obtain ⟨e2, g2⟩ := h2
 replace e2 : [a2] = _ := e2
 simp only [List.cons.injEq, and_true] at e2
 subst e2
 obtain ⟨y3, h3⟩ := hf 3 9 3 1 qAd rfl (by kernel_rfl) (qEx Tryz.underlying9)
 obtain ⟨e3, g3⟩ := h3
 replace e3 : [a3] = _ := e3
 simp only [List.cons.injEq, and_true] at e3
 subst e3
 obtain ⟨y4, h4⟩ := hf 4 9 4 1 qAd rfl (by kernel_rfl) (qEx Tryz.underlying9)
 obtain ⟨e4, g4⟩ := h4
 replace e4 : [a4] = _ := e4
 simp only [List.cons.injEq, and_true] at e4
 subst e4
 obtain ⟨y5, h5⟩ := hf 5 9 5 1 qAd rfl (by kernel_rfl) (qEx Tryz.underlying9)
 obtain ⟨e5, g5⟩ := h5
 replace e5 : [a5] = _ := e5
 simp only [List.cons.injEq, and_true] at e5
 subst e5
 exact ⟨⟨y0, y1, y2, y3, y4, y5⟩, rfl, g0, g1, g2, g3, g4, g5⟩
theorem rd_ssn : Rd tySsn 33 := fun H enc w base sp held fuel cs x h hz => by
 obtain ⟨hl, hf⟩ := qCp Tryz.underlying33 h hz
 have hl2 : cs.length = 19 := hl.trans (by kernel_rfl)
 clear h hz hl
 obtain ⟨a0, a1, a2, a3, a4, a5, a6, a7, a8, a9, a10, a11, a12, a13, a14, a15, a16, a17, a18, rfl⟩ : ∃ a0 a1 a2 a3 a4 a5 a6 a7 a8 a9 a10 a11 a12 a13 a14 a15 a16 a17 a18, cs = [a0, a1, a2, a3, a4, a5, a6, a7, a8, a9, a10, a11, a12, a13, a14, a15, a16, a17, a18] := by
  match cs, hl2 with
  | [a0, a1, a2, a3, a4, a5, a6, a7, a8, a9, a10, a11, a12, a13, a14, a15, a16, a17, a18], _ => exact ⟨a0, a1, a2, a3, a4, a5, a6, a7, a8, a9, a10, a11, a12, a13, a14, a15, a16, a17, a18, rfl⟩
 obtain ⟨y0, h0⟩ := hf 0 3 0 1 tyI rfl (by kernel_rfl) (qEy Tryz.underlying3)
 obtain ⟨e0, g0⟩ := h0
 replace e0 : [a0] = _ := e0
 simp only [List.cons.injEq, and_true] at e0
 subst e0
 obtain ⟨y1, h1⟩ := hf 1 24 1 6 tyOrg rfl (by kernel_rfl) rd_org
 obtain ⟨e1, g1⟩ := h1
 replace e1 : [a1, a2, a3, a4, a5, a6] = _ := e1
 simp only [List.cons.injEq, and_true] at e1
 obtain ⟨rfl, rfl, rfl, rfl, rfl, rfl⟩ := e1
 obtain ⟨y2, h2⟩ := hf 2 9 7 1 qAd rfl (by kernel_rfl) (qEx Tryz.underlying9)
 obtain ⟨e2, g2⟩ := h2
 replace e2 : [a7] = _ := e2
 simp only [List.cons.injEq, and_true] at e2
 subst e2
 obtain ⟨y3, h3⟩ := hf 3 25 8 1 qAd.sl rfl (by kernel_rfl) qJ9
 obtain ⟨v3, e3, g3⟩ := h3
 obtain rfl : a8 = v3 := by simpa using e3
 obtain ⟨y4, h4⟩ := hf 4 25 9 1 qAd.sl rfl (by kernel_rfl) qJ9
 obtain ⟨v4, e4, g4⟩ := h4
 obtain rfl : a9 = v4 := by simpa using e4
 obtain ⟨y5, h5⟩ := hf 5 25 10 1 qAd.sl rfl (by kernel_rfl) qJ9
 obtain ⟨v5, e5, g5⟩ := h5
 obtain rfl : a10 = v5 := by simpa using e5
 obtain ⟨y6, h6⟩ := hf 6 25 11 1 qAd.sl rfl (by kernel_rfl) qJ9
 obtain ⟨v6, e6, g6⟩ := h6
 obtain rfl : a11 = v6 := by simpa using e6
 obtain ⟨y7, h7⟩ := hf 7 26 12 1 qC0.sl rfl (by kernel_rfl) rd_26
 obtain ⟨v7, e7, g7⟩ := h7
 obtain rfl : a12 = v7 := by simpa using e7
 obtain ⟨y8, h8⟩ := hf 8 27 13 1 qBx.sl rfl (by kernel_rfl) rd_27
 obtain ⟨v8, e8, g8⟩ := h8
 obtain rfl : a13 = v8 := by simpa using e8
 obtain ⟨y9, h9⟩ := hf 9 28 14 1 qCc.sl rfl (by kernel_rfl) rd_28
 obtain ⟨v9, e9, g9⟩ := h9
 obtain rfl : a14 = v9 := by simpa using e9
 obtain ⟨y10, h10⟩ := hf 10 29 15 1 qDt.sl rfl (by kernel_rfl) rd_29
 obtain ⟨v10, e10, g10⟩ := h10
 obtain rfl : a15 = v10 := by simpa using e10
 obtain ⟨y11, h11⟩ := hf 11 25 16 1 qAd.sl rfl (by kernel_rfl) qJ9
 obtain ⟨v11, e11, g11⟩ := h11
 obtain rfl : a16 = v11 := by simpa using e11
 obtain ⟨y12, h12⟩ := hf 12 30 17 1 qBy.sl rfl (by kernel_rfl) rd_30
 obtain ⟨v12, e12, g12⟩ := h12
 obtain rfl : a17 = v12 := by simpa using e12
 obtain ⟨y13, h13⟩ := hf 13 31 18 1 qEj.sl rfl (by kernel_rfl) rd_31
 obtain ⟨v13, e13, g13⟩ := h13
 obtain rfl : a18 = v13 := by simpa using e13
 exact ⟨⟨y0, y1, y2, y3, y4, y5, y6, y7, y8, y9, y10, y11, y12, y13⟩, _, _, _, _, _, _, _, _, _, _, _, rfl, ⟨g0, g1.1, g1.2.1, g1.2.2.1, g1.2.2.2.1, g1.2.2.2.2.1, g1.2.2.2.2.2, g2, g3, g4, g5, g6, g7, g8, g9, g10, g11, g12, g13⟩⟩
end Go.Proofs.YtcepdjlknalmnaaGreatDoor
/- What the listed variables lay in memory: the witness's world, and what a list of them gives. -/
namespace Go.Proofs.YtcepdjlknalmnaaGreatDoor
open Go.ChangeShapes Go.WideShapes Go.ChangeAt Go.RowKit
theorem knob : ownKnob Tryz.prog.godebug = none := by kernel_rfl
theorem qNi : "*" ++ "errors.errorString" = "*errors.errorString" := by decide
theorem row348 (u : TypeId) (h : Tryz.prog.typeName? 3 u = some "*errors.errorString") : u = 348 :=
 typeName_ptr_named (nm := "errors.errorString") (by rw [qNi]; kernel_rfl) (by kernel_rfl) (by decide) u (by rw [qNi]; exact h)
def qFe (text : List UInt8) : Obj := .cells #[.string ⟨text.toArray⟩] 350
def u16Of (l : List (Nat × Nat × Nat)) : Array Value := (l.flatMap fun (a, b, c) => [Value.int .u16 a, Value.int .u16 b, Value.int .u16 c]).toArray
def whites : List (Nat × Nat × Nat) := [(9, 13, 1), (32, 133, 101), (160, 5760, 5600), (8192, 8202, 1), (8232, 8233, 1), (8239, 8287, 48), (12288, 12288, 1)]
def qNj : List (DataW Unit) -> List Value
 | [] => []
 | .lit (.int k n) :: r => .int k n :: qNj r
 | .agg [.lit (.int k n), .lit (.int k' n')] :: r => .int k n :: .int k' n' :: qNj r
 | _ :: r => qNj r
def qF6 : DataW Unit -> Array Value
 | .agg l => (qNj l).toArray
 | _ => #[]
def qFf : DataW Unit -> List UInt8
 | .iface _ (.ptr (.agg [.lit (.string t)])) => t
 | _ => []
noncomputable def laidWorld (os : Os) : World :=
 let N := (World.settled Tryz.prog os).heap.size
 let w0 := World.holding Tryz.prog os ⟨#[
  qFe (qFf Rows.laid_io_EOF), qFe (qFf Rows.laid_pionsdp_pub_sdp_errSDPInvalidValue), qFe (qFf Rows.laid_pionsdp_pub_sdp_errDocumentStart), qFe (qFf Rows.laid_pionsdp_pub_sdp_errFieldMissing),
  qFe (qFf Rows.laid_pionsdp_pub_sdp_errSDPInvalidNumericValue), qFe (qFf Rows.laid_pionsdp_pub_sdp_errSDPInvalidPortValue), qFe (qFf Rows.laid_strconv_ErrSyntax), qFe (qFf Rows.laid_strconv_ErrRange), qFe (qFf Rows.laid_pionsdp_pub_sdp_errSDPInvalidSyntax),
  .cells (u16Of whites) 298, .cells #[.slice (some ⟨N + 9, 0, none⟩) 7 7, .slice none 0 0, .int .i64 2] 295], #[], []⟩
 let put (h : Array Obj) (g : Nat) (cs : Array Value) : Array Obj := h.modify g fun
  | .cells _ t frozen => .cells cs t frozen
  | o => o
 let err (h : Array Obj) (g i : Nat) : Array Obj := put h g #[.iface 348 (.pointer (some ⟨N + i, 0, none⟩))]
 let h1 := err (err (err (err (err (err (err (err (err w0.heap 0 0) 1 1) 4 2) 6 3) 11 4) 12 5) 13 6) 14 7) 15 8
 let h2 := put (put (put h1 2 (qF6 Rows.laid_strings_asciiSpace)) 3 #[.pointer (some ⟨N + 10, 0, none⟩)]) 5 (qF6 Rows.laid_internal_strconv_uint64pow10)
 let h3 := put (put h2 7 (qF6 Rows.laid_unicode_utf8_first)) 8 (qF6 Rows.laid_unicode_utf8_acceptRanges)
 { w0 with heap := put (put h3 9 (qF6 Rows.laid_math_bits_deBruijn32tab)) 10 (qF6 Rows.laid_math_bits_deBruijn64tab) }
noncomputable abbrev N0 : Nat := (World.settled Tryz.prog default).heap.size
theorem eof_laid {W : World} {r : List (String × DataW Unit)} (h : laidMet Tryz.prog (("io.EOF", Rows.laid_io_EOF) :: r) W) : ∃ a, Eof W a := by
 obtain ⟨a, t, hv, hc, ht, _⟩ := laid_sentinel (g := 0) h (by kernel_rfl) (by kernel_rfl) Tryz.underlying118 row348 Tryz.underlying348 Tryz.underlying350 rfl rfl Tryz.underlying9 (by kernel_rfl) (by kernel_rfl)
 exact ⟨a, by unfold Eof; simpa using World.var?_cell (by kernel_rfl : Tryz.prog.globalNamed "io.EOF" = some 0) hv 0⟩
end Go.Proofs.YtcepdjlknalmnaaGreatDoor

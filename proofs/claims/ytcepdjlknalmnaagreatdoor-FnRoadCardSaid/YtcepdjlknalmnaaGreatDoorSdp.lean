/- Laws of this claim. -/
import Derived.Test.YtcepdjlknalmnaaGreatDoorLexC
import Derived.Test.YtcepdjlknalmnaaGreatDoorZj
set_option linter.unusedSimpArgs false
set_option linter.unusedVariables false
namespace Go.Proofs.YtcepdjlknalmnaaGreatDoor
open Go.RowKit
namespace Ty
variable {α : Type} {T : Ty α}
def Pt (T : Ty α) (w : World) (xs : List α) (v : Value) : Prop := (xs = [] /\ v = .pointer none) ∨ (∃ x b, xs = [x] /\ v = .pointer (some ⟨b, 0, none⟩) /\ T.At w [x] b 0)
theorem Pt_loc {w w' : World} (h : ∀ k, k < w.heap.size -> w'.heap[k]? = w.heap[k]?) {xs : List α} {v : Value} (hp : T.Pt w xs v) : T.Pt w' xs v := by
 rcases hp with hp | ⟨x, b, h1, h2, h3⟩
 · exact .inl hp
 exact .inr ⟨x, b, h1, h2, At_loc h h3⟩
theorem Pt_form {w : World} {xs : List α} {v : Value} (h : T.Pt w xs v) : ∃ a, v = .pointer a := by
 rcases h with ⟨_, rfl⟩ | ⟨_, _, _, rfl, _⟩
 · exact ⟨_, rfl⟩
 exact ⟨_, rfl⟩
theorem one_pt {w : World} {xs : List α} {v : Value} (h : T.Pt w xs v) : v.oneCell' = true := by
 obtain ⟨a, rfl⟩ := Pt_form h
 rfl
def ptr (T : Ty α) : Ty α where
 sz := 1
 rel := fun w x cs => ∃ b, cs = [.pointer (some ⟨b, 0, none⟩)] /\ T.At w [x] b 0
 len := by rintro w x cs ⟨b, rfl, _⟩; rfl
 one := by
  rintro w x cs ⟨b, rfl, h⟩ u hu
  rw [List.mem_singleton.1 hu]; rfl
 loc := by
  rintro w w' x cs h ⟨b, rfl, hs⟩
  exact ⟨b, rfl, At_loc h hs⟩
theorem At_one {w : World} {x : α} {cs : List Value} {b : Nat} (hr : T.rel w x cs) (hc : ∀ j u, cs[j]? = some u -> w.cell? ⟨b, j, none⟩ = some u) : T.At w [x] b 0 := fun k y hy => by
 have hk : k = 0 := by have := (List.getElem?_eq_some_iff.1 hy).1; simp at this; omega
 subst hk
 obtain rfl : x = y := by simpa using hy
 exact ⟨cs, hr, fun j u hu => by simpa using hc j u hu⟩
theorem At_blk {w : World} {x : α} {cs : List Value} {b : Nat} {t : TypeId} (hr : T.rel w x cs) (hb : Blk w b cs t) : T.At w [x] b 0 := At_one hr (fun j u hu => hb.cell j hu)
end Ty
def qHq : Ty Adr where
 sz := 3
 rel := fun w x cs => ∃ v1 v2, cs = [.string x.addr, v1, v2] /\ qAb x.addr /\ tyI.Pt w x.ttl v1 /\ tyI.Pt w x.rng v2
 len := by rintro w x cs ⟨v1, v2, rfl, _⟩; rfl
 one := by
  rintro w x cs ⟨v1, v2, rfl, _, h1, h2⟩ u hu
  simp only [List.mem_cons, List.not_mem_nil, or_false] at hu
  rcases hu with rfl | rfl | rfl
  all_goals first | exact rfl | exact Ty.one_pt h1 | exact Ty.one_pt h2
 loc := by
  rintro w w' x cs h ⟨v1, v2, rfl, h0, h1, h2⟩
  exact ⟨v1, v2, rfl, h0, Ty.Pt_loc h h1, Ty.Pt_loc h h2⟩
def qGw : Ty Con where
 sz := 3
 rel := fun w x cs => ∃ v1, cs = [.string x.net, .string x.addr, v1] /\ qAb x.net /\ qAb x.addr /\ qHq.Pt w x.adrs v1
 len := by rintro w x cs ⟨v1, rfl, _⟩; rfl
 one := by
  rintro w x cs ⟨v1, rfl, _, _, h1⟩ u hu
  simp only [List.mem_cons, List.not_mem_nil, or_false] at hu
  rcases hu with rfl | rfl | rfl
  all_goals first | exact rfl | exact Ty.one_pt h1
 loc := by
  rintro w w' x cs h ⟨v1, rfl, h0, h0', h1⟩
  exact ⟨v1, rfl, h0, h0', Ty.Pt_loc h h1⟩
structure PMedAt (w : World) (x : Med) (v0 v1 v2 v3 v4 v5 v6 v7 : Value) : Prop where
 name : qAb x.name
 port : qAg .i64 x.port
 ports : tyI.Pt w x.ports v0
 protos : qAd.Sl w x.protos v1
 fmts : qAd.Sl w x.fmts v2
 title : qAd.Pt w x.title v3
 conn : qGw.Pt w x.conn v4
 bws : qBx.Sl w x.bws v5
 key : qAd.Pt w x.key v6
 atts : qBy.Sl w x.atts v7
theorem PMedAt.loc {w w' : World} (h : ∀ k, k < w.heap.size -> w'.heap[k]? = w.heap[k]?) {x : Med} {v0 v1 v2 v3 v4 v5 v6 v7 : Value} (m : PMedAt w x v0 v1 v2 v3 v4 v5 v6 v7) : PMedAt w' x v0 v1 v2 v3 v4 v5 v6 v7 :=
 ⟨m.name, m.port, Ty.Pt_loc h m.ports, Ty.Sl_loc h m.protos, Ty.Sl_loc h m.fmts, Ty.Pt_loc h m.title, Ty.Pt_loc h m.conn, Ty.Sl_loc h m.bws, Ty.Pt_loc h m.key, Ty.Sl_loc h m.atts⟩
def qEs : Ty Med where
 sz := 10
 rel := fun w x cs => ∃ v0 v1 v2 v3 v4 v5 v6 v7, cs = [.string x.name, .int .i64 x.port, v0, v1, v2, v3, v4, v5, v6, v7] /\ PMedAt w x v0 v1 v2 v3 v4 v5 v6 v7
 len := by rintro w x cs ⟨v0, v1, v2, v3, v4, v5, v6, v7, rfl, _⟩; rfl
 one := by
  rintro w x cs ⟨v0, v1, v2, v3, v4, v5, v6, v7, rfl, m⟩ u hu
  simp only [List.mem_cons, List.not_mem_nil, or_false] at hu
  rcases hu with rfl | rfl | rfl | rfl | rfl | rfl | rfl | rfl | rfl | rfl
  all_goals first | exact rfl | exact Ty.one_pt m.ports | exact qBg m.protos | exact qBg m.fmts | exact Ty.one_pt m.title | exact Ty.one_pt m.conn | exact qBg m.bws | exact Ty.one_pt m.key | exact qBg m.atts
 loc := by
  rintro w w' x cs h ⟨v0, v1, v2, v3, v4, v5, v6, v7, rfl, m⟩
  exact ⟨v0, v1, v2, v3, v4, v5, v6, v7, rfl, m.loc h⟩
theorem qAq.keep {P : World -> Prop} {w w' : World} {ρ ρ' : Nat -> Nat} {S : Nat -> Prop} {i : Nat} (h : qAq P w (fun k => ρ k = 0 ∨ ρ k = i)) (hf : Fr S w w') (hs : ∀ k, k < w.heap.size -> S k -> ¬ ρ k = 0 /\ ¬ ρ k = i) (hρ : ∀ k, k < w.heap.size -> ρ k = 0 ∨ ρ k = i -> ρ' k = ρ k) : qAq P w' (fun k => ρ' k = 0 ∨ ρ' k = i) :=
 (h.fr hf (fun k hk hok hS => by have := hs k hk hS; omega)).mono (fun k _ hk => by rw [hρ k hk.2 hk.1]; exact hk.1)
theorem qAq.keep0 {P : World -> Prop} {w w' : World} {ρ ρ' : Nat -> Nat} {S : Nat -> Prop} (h : qAq P w (fun k => ρ k = 0)) (hf : Fr S w w') (hs : ∀ k, k < w.heap.size -> S k -> ¬ ρ k = 0) (hρ : ∀ k, k < w.heap.size -> ρ k = 0 -> ρ' k = 0) : qAq P w' (fun k => ρ' k = 0) :=
 (h.fr hf (fun k hk hok hS => hs k hk hS hok)).mono (fun k _ hk => hρ k hk.2 hk.1)
def qIc {α : Type} (T : Ty α) (ρ : Nat -> Nat) (i : Nat) (w : World) (B e : Nat) (v : Value) (xs : List α) : Prop := qAo T w B e v xs (fun k => ρ k = 0) /\ ∀ k, v.ownBlock = some k -> ρ k = i
theorem qIc.keep {α : Type} {T : Ty α} {ρ ρ' : Nat -> Nat} {i : Nat} {w w' : World} {B e : Nat} {v : Value} {xs : List α} {S : Nat -> Prop} (h : qIc T ρ i w B e v xs) (hf : Fr S w w') (hs : ∀ k, k < w.heap.size -> S k -> ¬ ρ k = 0 /\ ¬ ρ k = i) (hρ : ∀ k, k < w.heap.size -> ρ k = 0 ∨ ρ k = i -> ρ' k = ρ k) : qIc T ρ' i w' B e v xs := by
 obtain ⟨rows, hr, hl, hg⟩ := h.1
 have hb := qAo.base h.1
 refine ⟨⟨rows, hr.fr hf (fun k hk hS => (hs k (hb k hk).2 hS).2 (h.2 k hk)), hl, fun j x r hx hr' => ?_⟩, fun k hk => ?_⟩
 · refine ((hg j x r hx hr').fr hf (fun k hk hok hS => (hs k hk hS).1 hok.1)).mono (fun k _ hk => ⟨?_, hk.1.2⟩)
   show ρ' k = 0
   rw [hρ k hk.2 (.inl hk.1.1)]
   exact hk.1.1
 rw [hρ k (hb k hk).2 (.inr (h.2 k hk))]
 exact h.2 k hk
theorem qAo.foot1 {α : Type} {T : Ty α} {w : World} {B e : Nat} {v : Value} {xs : List α} {ok : Nat -> Prop} (h : qAo T w B e v xs ok) (hm : xs.length <= 140737488355328) : qAq (fun W => T.Sl W xs v) w (fun k => ok k ∨ some k = v.ownBlock) := fun W hW => by
 obtain ⟨rows, hr, hl, hf⟩ := h
 refine Row.sl (hr.move (w1 := W) (fun k hk => hW k (.inr hk.symm) (hr.base k hk).2)) hl.symm (by omega) (fun k x r hx hr' => hf k x r hx hr' W (fun j hj hlt => hW j (.inl hj.1) hlt))
theorem qIc.foot {α : Type} {T : Ty α} {ρ : Nat -> Nat} {i : Nat} {w : World} {B e : Nat} {v : Value} {xs : List α} (h : qIc T ρ i w B e v xs) (hm : xs.length <= 140737488355328) : qAq (fun W => T.Sl W xs v) w (fun k => ρ k = 0 ∨ ρ k = i) :=
 (h.1.foot1 hm).mono (fun k _ hk => hk.imp id (fun e => h.2 k e.symm))
theorem qIc.nil {α : Type} (T : Ty α) (ρ : Nat -> Nat) (i : Nat) (w : World) (B e : Nat) : qIc T ρ i w B e (.slice none 0 0) [] := ⟨qAo.nil _ _ _ _ _, fun k hk => by simp [Value.ownBlock] at hk⟩
theorem qIc.form {α : Type} {T : Ty α} {ρ : Nat -> Nat} {i : Nat} {w : World} {B e : Nat} {v : Value} {xs : List α} (h : qIc T ρ i w B e v xs) : ∃ A n c, v = .slice A n c := qAo.form' h.1
structure MVs where
 media : Value
 M : Nat
 mports : Value
 mprotos : Value
 mfmts : Value
 mtitle : Value
 mconn : Value
 mbws : Value
 mkey : Value
structure Vs where
 info : Value
 uri : Value
 email : Value
 phone : Value
 conn : Value
 bws : Value
 times : Value
 zones : Value
 key : Value
 sa : Value
 ma : Value
 reps : Value
 m : MVs
 /-- What besides is kept, whatever it is. -/
 pro : World -> Prop
structure TimK (ρ : Nat -> Nat) (w : World) (B : Nat) (vt vr : Value) (td : List Tim) (tc : Option Tim) (rows : List (List Value)) : Prop where
 row : Row w B 177 3 vt rows
 own : ∀ k, vt.ownBlock = some k -> ρ k = 8
 len : rows.length = td.length + tc.toList.length
 done : ∀ (i : Nat) x r, td[i]? = some x -> rows[i]? = some r -> qAq (fun W => qCc.rel W x r) w (fun k => ρ k = 0)
 none0 : tc = .none -> td = []
 last : ∀ t, tc = some t -> rows[td.length]? = some [.int .u64 t.start, .int .u64 t.stop, vr] /\ qAg .u64 t.start /\ qAg .u64 t.stop /\ qIc qDc ρ 9 w B 178 vr t.reps
def curMed (y : Med) (V : MVs) : List Value := [.string y.name, .int .i64 y.port, V.mports, V.mprotos, V.mfmts, V.mtitle, V.mconn, V.mbws, V.mkey, .slice none 0 0]
structure CurK (ρ : Nat -> Nat) (w : World) (B : Nat) (V : MVs) (y : Med) : Prop where
 blk : Blk w V.M (curMed y V) 206
 own : ρ V.M = 11
 name : qAb y.name
 port : qAg .i64 y.port
 ports : qAq (fun W => tyI.Pt W y.ports V.mports) w (fun k => ρ k = 0)
 protos : qAq (fun W => qAd.Sl W y.protos V.mprotos) w (fun k => ρ k = 0)
 fmts : qAq (fun W => qAd.Sl W y.fmts V.mfmts) w (fun k => ρ k = 0)
 title : qAq (fun W => qAd.Pt W y.title V.mtitle) w (fun k => ρ k = 0)
 conn : qAq (fun W => qGw.Pt W y.conn V.mconn) w (fun k => ρ k = 0)
 bws : qIc qBx ρ 12 w B 198 V.mbws y.bws
 key : qAq (fun W => qAd.Pt W y.key V.mkey) w (fun k => ρ k = 0)
structure MedK (ρ : Nat -> Nat) (w : World) (B : Nat) (V : MVs) (md : List Med) (mc : Option Med) (rows : List (List Value)) : Prop where
 row : Row w B 182 1 V.media rows
 own : ∀ k, V.media.ownBlock = some k -> ρ k = 10
 len : rows.length = md.length + mc.toList.length
 done : ∀ (i : Nat) x r, md[i]? = some x -> rows[i]? = some r -> qAq (fun W => qEs.ptr.rel W x r) w (fun k => ρ k = 0)
 none0 : mc = .none -> md = []
 last : ∀ y, mc = some y -> rows[md.length]? = some [.pointer (some ⟨V.M, 0, none⟩)] /\ CurK ρ w B V y
structure Kp (R : Nat -> Prop) (B : Nat) (w : World) (ρ : Nat -> Nat) (q : Pst) (V : Vs) : Prop where
 zero : ∀ k, ¬ ρ k = 0 -> B <= k
 info : qAq (fun W => qAd.Pt W q.info V.info /\ V.pro W) w (fun k => ρ k = 0)
 uri : qAq (fun W => qAd.Pt W q.uri V.uri) w (fun k => ρ k = 0)
 email : qAq (fun W => qAd.Pt W q.email V.email) w (fun k => ρ k = 0)
 phone : qAq (fun W => qAd.Pt W q.phone V.phone) w (fun k => ρ k = 0)
 conn : qAq (fun W => qGw.Pt W q.conn V.conn) w (fun k => ρ k = 0)
 key : qAq (fun W => qAd.Pt W q.key V.key) w (fun k => ρ k = 0)
 bws : ¬ R 4 -> qIc qBx ρ 4 w B 198 V.bws q.bws
 zones : ¬ R 5 -> qIc qDt ρ 5 w B 181 V.zones q.zones
 sa : ¬ R 6 -> qIc qBy ρ 6 w B 199 V.sa q.atts
 ma : ¬ R 7 -> qIc qBy ρ 7 w B 199 V.ma q.ma
 times : ¬ R 8 -> ¬ R 9 -> ∃ rows, TimK ρ w B V.times V.reps q.td q.tc rows
 media : ¬ R 10 -> ¬ R 11 -> ¬ R 12 -> ∃ rows, MedK ρ w B V.m q.md q.mc rows
theorem TimK.keep {ρ ρ' : Nat -> Nat} {w w' : World} {B : Nat} {vt vr : Value} {td : List Tim} {tc : Option Tim} {rows : List (List Value)} {S : Nat -> Prop} (h : TimK ρ w B vt vr td tc rows) (hf : Fr S w w')
 (hs : ∀ k, k < w.heap.size -> S k -> ¬ ρ k = 0 /\ ¬ ρ k = 8 /\ ¬ ρ k = 9) (hρ : ∀ k, k < w.heap.size -> ρ k = 0 ∨ ρ k = 8 ∨ ρ k = 9 -> ρ' k = ρ k) : TimK ρ' w' B vt vr td tc rows where
 row := h.row.fr hf (fun k hk hS => (hs k (h.row.base k hk).2 hS).2.1 (h.own k hk))
 own := fun k hk => by rw [hρ k (h.row.base k hk).2 (.inr (.inl (h.own k hk)))]; exact h.own k hk
 len := h.len
 done := fun i x r hx hr => (h.done i x r hx hr).keep0 hf (fun k hk hS => (hs k hk hS).1) (fun k hk h0 => by rw [hρ k hk (.inl h0)]; exact h0)
 none0 := h.none0
 last := fun t ht => by
  obtain ⟨h1, h2, h3, h4⟩ := h.last t ht
  exact ⟨h1, h2, h3, h4.keep hf (fun k hk hS => ⟨(hs k hk hS).1, (hs k hk hS).2.2⟩) (fun k hk h0 => hρ k hk (by omega))⟩
theorem CurK.keep {ρ ρ' : Nat -> Nat} {w w' : World} {B : Nat} {V : MVs} {y : Med} {S : Nat -> Prop} (h : CurK ρ w B V y) (hf : Fr S w w')
 (hs : ∀ k, k < w.heap.size -> S k -> ¬ ρ k = 0 /\ ¬ ρ k = 11 /\ ¬ ρ k = 12) (hρ : ∀ k, k < w.heap.size -> ρ k = 0 ∨ ρ k = 11 ∨ ρ k = 12 -> ρ' k = ρ k) : CurK ρ' w' B V y := by
 have hs0 : ∀ k, k < w.heap.size -> S k -> ¬ ρ k = 0 := fun k hk hS => (hs k hk hS).1
 have hρ0 : ∀ k, k < w.heap.size -> ρ k = 0 -> ρ' k = 0 := fun k hk h0 => by rw [hρ k hk (.inl h0)]; exact h0
 exact ⟨h.blk.fr hf (fun hS => (hs _ h.blk.lt hS).2.1 h.own), by rw [hρ _ h.blk.lt (.inr (.inl h.own))]; exact h.own, h.name, h.port, h.ports.keep0 hf hs0 hρ0, h.protos.keep0 hf hs0 hρ0, h.fmts.keep0 hf hs0 hρ0, h.title.keep0 hf hs0 hρ0, h.conn.keep0 hf hs0 hρ0,
  h.bws.keep hf (fun k hk hS => ⟨(hs k hk hS).1, (hs k hk hS).2.2⟩) (fun k hk h0 => hρ k hk (by omega)), h.key.keep0 hf hs0 hρ0⟩
theorem MedK.keep {ρ ρ' : Nat -> Nat} {w w' : World} {B : Nat} {V : MVs} {md : List Med} {mc : Option Med} {rows : List (List Value)} {S : Nat -> Prop} (h : MedK ρ w B V md mc rows) (hf : Fr S w w')
 (hs : ∀ k, k < w.heap.size -> S k -> ¬ ρ k = 0 /\ ¬ ρ k = 10 /\ ¬ ρ k = 11 /\ ¬ ρ k = 12) (hρ : ∀ k, k < w.heap.size -> ρ k = 0 ∨ ρ k = 10 ∨ ρ k = 11 ∨ ρ k = 12 -> ρ' k = ρ k) : MedK ρ' w' B V md mc rows where
 row := h.row.fr hf (fun k hk hS => (hs k (h.row.base k hk).2 hS).2.1 (h.own k hk))
 own := fun k hk => by rw [hρ k (h.row.base k hk).2 (.inr (.inl (h.own k hk)))]; exact h.own k hk
 len := h.len
 done := fun i x r hx hr => (h.done i x r hx hr).keep0 hf (fun k hk hS => (hs k hk hS).1) (fun k hk h0 => by rw [hρ k hk (.inl h0)]; exact h0)
 none0 := h.none0
 last := fun y hy => by
  obtain ⟨h1, h2⟩ := h.last y hy
  exact ⟨h1, h2.keep hf (fun k hk hS => ⟨(hs k hk hS).1, (hs k hk hS).2.2⟩) (fun k hk h0 => hρ k hk (by omega))⟩
theorem Kp.keep {R R' : Nat -> Prop} {B : Nat} {w w' : World} {ρ ρ' : Nat -> Nat} {q : Pst} {V : Vs} {S : Nat -> Prop} (h : Kp R B w ρ q V) (hf : Fr S w w') (hS : ∀ k, k < w.heap.size -> S k -> R' (ρ k)) (hR : ∀ i, R i -> R' i) (h0 : ¬ R' 0)
 (hρ : ∀ k, k < w.heap.size -> ¬ R' (ρ k) -> ρ' k = ρ k) (hz : ∀ k, ¬ ρ' k = 0 -> B <= k) : Kp R' B w' ρ' q V := by
 have hs0 : ∀ k, k < w.heap.size -> S k -> ¬ ρ k = 0 := fun k hk hs e => h0 (e ▸ hS k hk hs)
 have hρ0 : ∀ k, k < w.heap.size -> ρ k = 0 -> ρ' k = 0 := fun k hk e => by rw [hρ k hk (by rw [e]; exact h0)]; exact e
 have hsi : ∀ i, ¬ R' i -> ∀ k, k < w.heap.size -> S k -> ¬ ρ k = 0 /\ ¬ ρ k = i := fun i hi k hk hs => ⟨hs0 k hk hs, fun e => hi (e ▸ hS k hk hs)⟩
 have hρi : ∀ i, ¬ R' i -> ∀ k, k < w.heap.size -> ρ k = 0 ∨ ρ k = i -> ρ' k = ρ k := fun i hi k hk e => hρ k hk (by rcases e with e | e <;> rw [e] <;> assumption)
 refine ⟨hz, h.info.keep0 hf hs0 hρ0, h.uri.keep0 hf hs0 hρ0, h.email.keep0 hf hs0 hρ0, h.phone.keep0 hf hs0 hρ0, h.conn.keep0 hf hs0 hρ0, h.key.keep0 hf hs0 hρ0,
  fun hi => (h.bws (fun e => hi (hR _ e))).keep hf (hsi _ hi) (hρi _ hi), fun hi => (h.zones (fun e => hi (hR _ e))).keep hf (hsi _ hi) (hρi _ hi),
  fun hi => (h.sa (fun e => hi (hR _ e))).keep hf (hsi _ hi) (hρi _ hi), fun hi => (h.ma (fun e => hi (hR _ e))).keep hf (hsi _ hi) (hρi _ hi), fun h8 h9 => ?_, fun h10 h11 h12 => ?_⟩
 · obtain ⟨rows, ht⟩ := h.times (fun e => h8 (hR _ e)) (fun e => h9 (hR _ e))
   exact ⟨rows, ht.keep hf (fun k hk hs => ⟨hs0 k hk hs, (hsi 8 h8 k hk hs).2, (hsi 9 h9 k hk hs).2⟩) (fun k hk e => hρ k hk (by rcases e with e | e | e <;> rw [e] <;> assumption))⟩
 obtain ⟨rows, ht⟩ := h.media (fun e => h10 (hR _ e)) (fun e => h11 (hR _ e)) (fun e => h12 (hR _ e))
 exact ⟨rows, ht.keep hf (fun k hk hs => ⟨hs0 k hk hs, (hsi 10 h10 k hk hs).2, (hsi 11 h11 k hk hs).2, (hsi 12 h12 k hk hs).2⟩) (fun k hk e => hρ k hk (by rcases e with e | e | e | e <;> rw [e] <;> assumption))⟩
def pD (D : Nat) : Value := .pointer (some ⟨D, 0, none⟩)
def qCg (q : Pst) (V : Vs) : List Value := [.int .i64 0, .string q.org.user, .int .u64 q.org.id, .int .u64 q.org.ver, .string q.org.net, .string q.org.addr, .string q.org.adr, .string q.name, V.info, V.uri, V.email, V.phone, V.conn, V.bws, V.times, V.zones, V.key, .slice none 0 0, V.m.media]
structure Small (N : Nat) (q : Pst) : Prop where
 bws : q.bws.length <= N
 td : q.td.length <= N
 reps : ∀ t, q.tc = some t -> t.reps.length <= N
 zones : q.zones.length <= N
 atts : q.atts.length <= N
 md : q.md.length <= N
 mbws : ∀ y, q.mc = some y -> y.bws.length <= N
 ma : q.ma.length <= N
structure PS (B : Nat) (w : World) (ρ : Nat -> Nat) (L D C : Nat) (s : ByteArray) (p : Nat) (q : Pst) (V : Vs) : Prop where
 rL : ρ L = 1
 rD : ρ D = 2
 rC : ρ C = 3
 rz : ρ 0 = 0
 lx : Lx w L (pD D) (pD C) s p
 dd : Blk w D (qCg q V) 115
 cc : Blk w C [V.sa, V.ma] 155
 kp : Kp (fun _ => False) B w ρ q V
 wfo : qAb q.org.user /\ qAg .u64 q.org.id /\ qAg .u64 q.org.ver /\ qAb q.org.net /\ qAb q.org.addr /\ qAb q.org.adr /\ qAb q.name
namespace PS
variable {B : Nat} {w w' : World} {ρ : Nat -> Nat} {L D C : Nat} {s : ByteArray} {p : Nat} {q : Pst} {V : Vs}
theorem lne (h : PS B w ρ L D C s p q V) : ¬ L = 0 := fun e => by have := h.rL; rw [e, h.rz] at this; cases this
end PS
def ext (ρ : Nat -> Nat) (n : Nat) (f : Nat -> Nat) : Nat -> Nat := fun k => if k < n then ρ k else f k
theorem qAz {ρ : Nat -> Nat} {n : Nat} {f : Nat -> Nat} {k : Nat} (h : k < n) : ext ρ n f k = ρ k := by unfold ext; rw [if_pos h]
theorem qCm {ρ : Nat -> Nat} {n : Nat} {f : Nat -> Nat} {k : Nat} (h : n <= k) : ext ρ n f k = f k := by unfold ext; rw [if_neg (by omega)]
end Go.Proofs.YtcepdjlknalmnaaGreatDoor

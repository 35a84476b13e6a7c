/- Laws of this claim. -/
import Derived.Test.YtcepdjlknalmnaaGreatDoorPop
set_option linter.unusedSimpArgs false
set_option linter.unusedVariables false
namespace Go.Proofs.YtcepdjlknalmnaaGreatDoor
open Go.RowKit
def mNew (v : Value) (g : Nat) (vp vq vf : Value) : MVs := ⟨v, g, vp, vq, vf, .pointer none, .pointer none, .slice none 0 0, .pointer none⟩
theorem PopS.addMed {B : Nat} {w w1 w2 w6 : World} {ρ : Nat -> Nat} {L D C g r : Nat} {s : ByteArray} {p : Nat} {q : Pst} {V : Vs} {rows : List (List Value)} {m : Med} {v6 vp vq vf : Value} (h : PopS B w ρ L D C s p q V (qCg q V))
 (hx : Lx w1 L (pD D) (pD C) s r) (hn : Fr (fun k => k = L) w w1) (hg : w.heap.size <= g) (hb : Blk w1 g (curMed (qNp m) (mNew v6 g vp vq vf)) 206)
 (hname : qAb m.name) (hport : qAg .i64 m.port) (hp : qAq (fun W => tyI.Pt W m.ports vp) w1 (fun k => w.heap.size <= k /\ ¬ k = g)) (hq : qAq (fun W => qAd.Sl W m.protos vq) w1 (fun k => w.heap.size <= k /\ ¬ k = g)) (hf : qAq (fun W => qAd.Sl W m.fmts vf) w1 (fun k => w.heap.size <= k /\ ¬ k = g))
 (hM : Row w B 182 1 V.m.media rows) (hMo : ∀ k, V.m.media.ownBlock = some k -> ρ k = 10) (hMl : rows.length = q.md.length) (hMd : ∀ (i : Nat) x r, q.md[i]? = some x -> rows[i]? = some r -> qAq (fun W => qEs.ptr.rel W x r) w (fun k => ρ k = 0))
 (h12 : Nw w1 w2) (hr : Row w6 B 182 1 v6 (rows ++ [[.pointer (some ⟨g, 0, none⟩)]])) (hf6 : Fr (fun k => some k = V.m.media.ownBlock) w2 w6) (ho6 : v6.ownBlock = V.m.media.ownBlock ∨ ∃ b, v6.ownBlock = some b /\ w2.heap.size <= b) :
 (∃ ρ', PS B (w6.setCell ⟨D, 18, none⟩ v6) ρ' L D C s r { q with mc := some (qNp m) } { V with m := mNew v6 g vp vq vf }) /\ Fr (fun k => B <= k) w (w6.setCell ⟨D, 18, none⟩ v6) := by
 have hDL : ¬ D = L := fun e => by have := h.rD; rw [e, h.rL] at this; cases this
 have hCL : ¬ C = L := fun e => by have := h.rC; rw [e, h.rL] at this; cases this
 have hCD : ¬ C = D := fun e => by have := h.rC; rw [e, h.rD] at this; cases this
 have hLlt := h.lx.lt
 have hDlt := h.dd.lt
 have hClt := h.cc.lt
 have hBD : B <= D := h.kp.zero D (by rw [h.rD]; decide)
 have hBL : B <= L := h.kp.zero L (by rw [h.rL]; decide)
 have hBw : B <= w.heap.size := by omega
 have hown : ∀ k, V.m.media.ownBlock = some k -> ρ k = 10 /\ k < w.heap.size /\ B <= k := fun k hk => ⟨hMo k hk, (hM.base k hk).2, (hM.base k hk).1⟩
 have hLo : ¬ some L = V.m.media.ownBlock := fun e => by have := (hown L e.symm).1; rw [h.rL] at this; cases this
 have hDo : ¬ some D = V.m.media.ownBlock := fun e => by have := (hown D e.symm).1; rw [h.rD] at this; cases this
 have hCo : ¬ some C = V.m.media.ownBlock := fun e => by have := (hown C e.symm).1; rw [h.rC] at this; cases this
 have hsz1 : w.heap.size <= w1.heap.size := hn.size
 have hsz2 : w1.heap.size <= w2.heap.size := h12.size
 have hglt := hb.lt
 have hgo : ¬ some g = V.m.media.ownBlock := fun e => by have := (hown g e.symm).2.1; omega
 have hgD : ¬ g = D := by omega
 have hF2 : Fr (fun k => some k = V.m.media.ownBlock ∨ k = D) w1 (w6.setCell ⟨D, 18, none⟩ v6) := ((h12.fr _).trans (hf6.mono (fun k _ e => .inl (.inl e)))).setCell (.inl (.inr rfl)) v6
 have hF1 : Fr (fun k => k = L ∨ some k = V.m.media.ownBlock ∨ k = D) w (w6.setCell ⟨D, 18, none⟩ v6) := (hn.mono (fun k _ e => .inl e)).trans (hF2.mono (fun k _ e => .inl (.inr e)))
 have hS : ∀ k, k < w.heap.size -> (k = L ∨ some k = V.m.media.ownBlock ∨ k = D) -> ρ k = 1 ∨ ρ k = 10 ∨ ρ k = 2 := fun k _ e => by
  rcases e with e | e | e
  · rw [e]; exact .inl h.rL
  · exact .inr (.inl (hown k e.symm).1)
  rw [e]; exact .inr (.inr h.rD)
 refine ⟨?_, hF1.mono (fun k _ e => by
  rcases e with e | e | e
  · rw [e]; exact hBL
  · exact (hown k e.symm).2.2
  rw [e]; exact hBD)⟩
 obtain ⟨ρ', hρ'⟩ : ∃ ρ' : Nat -> Nat, ρ' = fun k => if k < w.heap.size then ρ k else if k = g then 11 else if some k = v6.ownBlock then 10 else 0 := ⟨_, rfl⟩
 have hold : ∀ k, k < w.heap.size -> ρ' k = ρ k := fun k hk => by rw [hρ']; simp only [if_pos hk]
 have hnewg : ρ' g = 11 := by rw [hρ']; simp only [if_neg (Nat.not_lt.2 hg), if_pos]
 have hnew0 : ∀ k, w.heap.size <= k -> k < w1.heap.size -> ¬ k = g -> ρ' k = 0 := fun k hk hk1 hkg => by
  have hk6 : ¬ some k = v6.ownBlock := fun e => by
   rcases ho6 with e6 | ⟨b, e6, hb6⟩
   · have := (hown k (by rw [<- e6, <- e])).2.1; omega
   rw [e6] at e; have : k = b := Option.some.inj e; omega
  rw [hρ']; simp only [if_neg (Nat.not_lt.2 hk), if_neg hkg, if_neg hk6]
 have hv6 : ∀ k, v6.ownBlock = some k -> ρ' k = 10 := fun k hk => by
  rcases ho6 with e6 | ⟨b, e6, hb6⟩
  · have := hown k (by rw [<- e6, hk]); rw [hold k this.2.1]; exact this.1
  rw [hk] at e6
  have hkb : k = b := Option.some.inj e6
  rw [hρ']; simp only [if_neg (show ¬ k < w.heap.size by omega), if_neg (show ¬ k = g by omega), if_pos hk.symm]
 have hz : ∀ k, ¬ ρ' k = 0 -> B <= k := fun k hk => by
  rcases Nat.lt_or_ge k w.heap.size with hlt | hge
  · exact h.kp.zero k (by rw [<- hold k hlt]; exact hk)
  omega
 have hk := h.kp.keep (R' := fun i => i = 1 ∨ i = 2 ∨ i = 10 ∨ i = 11 ∨ i = 12) (ρ' := ρ') hF1 (fun k hk e => by have := hS k hk e; omega) (fun i e => by omega) (by decide) (fun k hk _ => hold k hk) hz
 have hS0 : ∀ k, w.heap.size <= k /\ ¬ k = g -> ¬ (some k = V.m.media.ownBlock ∨ k = D) := fun k hk e => by
  rcases e with e | e
  · have := (hown k e.symm).2.1; omega
  omega
 have hD6 : Blk w6 D (qCg q V) 115 := ((h.dd.fr hn hDL).nw h12).fr hf6 hDo
 have hDv : ∀ k, v6.ownBlock = some k -> ¬ k = D := fun k hk e => by
  have := hv6 k hk
  rw [e, hold D hDlt, h.rD] at this
  cases this
 refine ⟨ρ', ⟨(hold L hLlt).trans h.rL, (hold D hDlt).trans h.rD, (hold C hClt).trans h.rC, (hold 0 (by omega)).trans h.rz, Blk.other (Blk.fr (Blk.nw hx h12) hf6 hLo) (fun e => hDL e.symm) _, hD6.set 18 v6,
  h.cc.fr hF1 (fun e => by rcases e with e | e | e; exact hCL e; exact hCo e; exact hCD e), ?_, h.wfo⟩⟩
 refine ⟨hk.zero, hk.info, hk.uri, hk.email, hk.phone, hk.conn, hk.key, fun _ => hk.bws (by decide), fun _ => hk.zones (by decide), fun _ => hk.sa (by decide), fun _ => hk.ma (by decide), fun _ _ => hk.times (by decide) (by decide), fun _ _ _ => ⟨rows ++ [[.pointer (some ⟨g, 0, none⟩)]], ?_⟩⟩
 refine ⟨hr.fr (Fr.self (p := ⟨D, 18, none⟩) v6) (fun k hk e => hDv k hk e), hv6, by simp [hMl], ?_, (fun e => by cases e), ?_⟩
 · intro i x r hi hr'
   have hil : i < q.md.length := (List.getElem?_eq_some_iff.1 hi).1
   rw [List.getElem?_append_left (by omega)] at hr'
   exact (hMd i x r hi hr').keep0 hF1 (fun k hk e => by have := hS k hk e; omega) (fun k hk e => by rw [hold k hk, e])
 intro y hy
 obtain rfl := Option.some.inj hy
 have hft : ∀ (P : World -> Prop), qAq P w1 (fun k => w.heap.size <= k /\ ¬ k = g) -> qAq P (w6.setCell ⟨D, 18, none⟩ v6) (fun k => ρ' k = 0) := fun P hP =>
  (hP.fr hF2 (fun k _ hok => hS0 k hok)).mono (fun k _ e => hnew0 k e.1.1 e.2 e.1.2)
 refine ⟨by rw [<- hMl, List.getElem?_append_right (Nat.le_refl _), Nat.sub_self]; rfl, Blk.other ((hb.nw h12).fr hf6 hgo) hgD _, hnewg, hname, hport, hft _ hp, hft _ hq, hft _ hf, fun _ _ => .inl ⟨rfl, rfl⟩, fun _ _ => .inl ⟨rfl, rfl⟩, (show qIc qBx ρ' 12 (w6.setCell ⟨D, 18, none⟩ v6) B 198 (.slice none 0 0) [] from qIc.nil qBx ρ' 12 _ B 198), fun _ _ => .inl ⟨rfl, rfl⟩⟩
end Go.Proofs.YtcepdjlknalmnaaGreatDoor
/- A field of the medium that is being read is set; its list of bandwidths grows. qB7. -/
namespace Go.Proofs.YtcepdjlknalmnaaGreatDoor
open Go.RowKit
namespace PS
variable {B : Nat} {w w' : World} {ρ : Nat -> Nat} {L D C : Nat} {s : ByteArray} {p r : Nat} {q : Pst} {V : Vs}
theorem last (h : PS B w ρ L D C s p q V) {y : Med} (hmc : q.mc = some y) : ∃ T c, w.cell? ⟨D, 18, none⟩ = some (.slice (some ⟨T, 0, none⟩) (q.md.length + 1) c) /\ w.cell? ⟨T, q.md.length, none⟩ = some (.pointer (some ⟨V.m.M, 0, none⟩)) /\ CurK ρ w B V.m y /\ T < w.heap.size := by
 obtain ⟨rows, hM⟩ := h.kp.media (fun e => e) (fun e => e) (fun e => e)
 have hlen := hM.len
 rw [hmc] at hlen
 obtain ⟨k1, hC⟩ := hM.last y hmc
 have hlen' : rows.length = q.md.length + 1 := hlen
 obtain ⟨T, c, hv⟩ := Row.form1 hM.row (by omega)
 have hg : V.m.media.ownBlock = some T := by rw [hv]; rfl
 rw [hlen'] at hv
 refine ⟨T, c, ?_, ?_, hC, (hM.row.base T hg).2⟩
 · rw [<- hv]; exact h.dd.cell 18 rfl
 have := hM.row.cell (g := T) (k := q.md.length) (j := 0) hg k1 rfl
 simpa using this
theorem mset (h : PS B w ρ L D C s p q V) {y y' : Med} {Vm : MVs} (hmc : q.mc = some y) (hf : Fr (fun k => k = V.m.M) w w') (hV : Vm.media = V.m.media /\ Vm.M = V.m.M)
 (hk : (∀ P, qAq P w (fun k => ρ k = 0) -> qAq P w' (fun k => ext ρ w.heap.size (fun _ => 0) k = 0)) -> qIc qBx (ext ρ w.heap.size (fun _ => 0)) 12 w' B 198 V.m.mbws y.bws -> ext ρ w.heap.size (fun _ => 0) V.m.M = 11 -> CurK (ext ρ w.heap.size (fun _ => 0)) w' B Vm y') :
 PS B w' (ext ρ w.heap.size (fun _ => 0)) L D C s p { q with mc := some y' } { V with m := Vm } := by
 obtain ⟨rows, hM⟩ := h.kp.media (fun e => e) (fun e => e) (fun e => e)
 obtain ⟨k1, hC⟩ := hM.last y hmc
 have hML : ¬ L = V.m.M := fun e => by have := hC.own; rw [<- e, h.rL] at this; cases this
 have hMD : ¬ D = V.m.M := fun e => by have := hC.own; rw [<- e, h.rD] at this; cases this
 have hMC : ¬ C = V.m.M := fun e => by have := hC.own; rw [<- e, h.rC] at this; cases this
 have e0 := h.size0
 have hr11 : ∀ k, k < w.heap.size -> k = V.m.M -> ρ k = 11 := fun k _ e => by rw [e]; exact hC.own
 have hz : ∀ k, ¬ ext ρ w.heap.size (fun _ => 0) k = 0 -> B <= k := fun k hk => by
  rcases Nat.lt_or_ge k w.heap.size with hlt | hge
  · rw [qAz hlt] at hk; exact h.kp.zero k hk
  rw [qCm hge] at hk; exact absurd rfl hk
 have hkk := h.kp.keep (R' := fun i => i = 11) (ρ' := ext ρ w.heap.size (fun _ => 0)) hf (fun k hk e => hr11 k hk e) (fun _ e => e.elim) (by decide) (fun k hk _ => qAz hk) hz
 have hdc : qCg { q with mc := some y' } { V with m := Vm } = qCg q V := by simp [qCg, hV.1]
 refine ⟨by rw [qAz h.lx.lt]; exact h.rL, by rw [qAz h.dd.lt]; exact h.rD, by rw [qAz h.cc.lt]; exact h.rC, by rw [qAz e0]; exact h.rz, h.lx.fr hf hML, by rw [hdc]; exact h.dd.fr hf hMD, h.cc.fr hf hMC, ?_, h.wfo⟩
 refine ⟨hkk.zero, hkk.info, hkk.uri, hkk.email, hkk.phone, hkk.conn, hkk.key, fun _ => hkk.bws (by decide), fun _ => hkk.zones (by decide), fun _ => hkk.sa (by decide), fun _ => hkk.ma (by decide), fun _ _ => hkk.times (by decide) (by decide), fun _ _ _ => ⟨rows, ?_⟩⟩
 have hlen := hM.len
 rw [hmc] at hlen
 refine ⟨?_, ?_, hlen, ?_, (fun e => by cases e), ?_⟩
 · show Row w' B 182 1 Vm.media rows
   rw [hV.1]
   exact hM.row.fr hf (fun k hk e => by have := hM.own k hk; have := hr11 k (hM.row.base k hk).2 e; omega)
 · intro k hk
   have hk' : V.m.media.ownBlock = some k := by rw [<- hV.1]; exact hk
   rw [qAz (hM.row.base k hk').2]; exact hM.own k hk'
 · intro i x r hx hr
   exact (hM.done i x r hx hr).keep0 hf (fun k hk e => by have := hr11 k hk e; omega) (fun k hk e => by rw [qAz hk, e])
 intro y1 hy
 obtain rfl := Option.some.inj hy
 refine ⟨by rw [hV.2]; exact k1, hk (fun P hP => hP.keep0 hf (fun k hk e => by have := hr11 k hk e; omega) (fun k hk e => by rw [qAz hk, e])) (hC.bws.keep hf (fun k hk e => by have := hr11 k hk e; omega) (fun k hk e => qAz hk)) (by rw [qAz hC.blk.lt]; exact hC.own)⟩
theorem addMb {W w6 : World} {y : Med} {x : Bwd} {v6 : Value} (h : PS B w ρ L D C s p q V) (hmc : q.mc = some y) (hn : Nw w W)
 (hr : Row w6 B 198 3 v6 (y.bws.map qCj ++ [qCj x])) (hf : Fr (fun k => some k = V.m.mbws.ownBlock) W w6) (ho : v6.ownBlock = V.m.mbws.ownBlock ∨ ∃ b, v6.ownBlock = some b /\ W.heap.size <= b) (hx : qAb x.ty /\ qAg .u64 x.n) :
 (∃ ρ', PS B (w6.setCell ⟨V.m.M, 7, none⟩ v6) ρ' L D C s p (q.app (.mb x)) { V with m := { V.m with mbws := v6 } }) /\ Fr (fun k => B <= k) w (w6.setCell ⟨V.m.M, 7, none⟩ v6) := by
 obtain ⟨rows, hM⟩ := h.kp.media (fun e => e) (fun e => e) (fun e => e)
 obtain ⟨k1, hC⟩ := hM.last y hmc
 have hBw : B <= w.heap.size := by have := h.BD; have := h.dd.lt; omega
 have hown := hC.bws.2
 have hfl := qAo.toFlat hC.bws.1
 have hMr := hC.own
 have hMlt := hC.blk.lt
 have hMB : B <= V.m.M := h.kp.zero _ (by rw [hMr]; decide)
 have hlt : ∀ k, V.m.mbws.ownBlock = some k -> k < w.heap.size := fun k hk => (qAo.base hC.bws.1 k hk).2
 have hMo : ¬ some V.m.M = V.m.mbws.ownBlock := fun e => by have := hown _ e.symm; omega
 have hF : Fr (fun k => some k = V.m.mbws.ownBlock ∨ k = V.m.M) w (w6.setCell ⟨V.m.M, 7, none⟩ v6) :=
  ((hn.fr _).trans (hf.mono (fun k _ e => .inl (.inl e)))).setCell (.inl (.inr rfl)) _
 have ho' : v6.ownBlock = V.m.mbws.ownBlock ∨ ∃ b, v6.ownBlock = some b /\ w.heap.size <= b := ho.imp id (fun ⟨b, h1, h2⟩ => ⟨b, h1, Nat.le_trans hn.size h2⟩)
 have hS : ∀ k, k < w.heap.size -> (some k = V.m.mbws.ownBlock ∨ k = V.m.M) -> ρ k = 12 ∨ ρ k = 11 := fun k _ e => e.imp (fun e => hown k e.symm) (fun e => by rw [e]; exact hMr)
 have hvM : ∀ k, v6.ownBlock = some k -> ¬ k = V.m.M := fun k e1 e => by
  rcases ho' with h1 | ⟨b, h1, h2⟩
  · have := hown V.m.M (by rw [<- h1, e1, e]); omega
  rw [e1] at h1; have : k = b := Option.some.inj h1; omega
 refine ⟨?_, hF.mono (fun k _ e => e.elim (fun e => (qAo.base hC.bws.1 k e.symm).1) (fun e => e ▸ hMB))⟩
 refine ⟨qI1 ρ w.heap.size (fun i => i) v6 12, ?_⟩
 have hk := h.kp.keep (R' := fun i => i = 11 ∨ i = 12) (ρ' := qI1 ρ w.heap.size (fun i => i) v6 12) hF (fun k hk e => by have := hS k hk e; omega) (fun _ e => e.elim) (by decide) (fun k hk e => qAj hk) (fun k hk => qD5 h.kp.zero rfl hBw hk)
 have hmc' : (q.app (.mb x)).mc = some { y with bws := y.bws ++ [x] } := by simp [Pst.app, hmc]
 have hmd' : (q.app (.mb x)).md = q.md := rfl
 refine ⟨by rw [qAj h.lx.lt, h.rL], by rw [qAj h.dd.lt, h.rD], by rw [qAj h.cc.lt, h.rC], by rw [qAj h.size0, h.rz],
  h.lx.fr hF (fun e => by have := hS L h.lx.lt e; rw [h.rL] at this; omega), h.dd.fr hF (fun e => by have := hS D h.dd.lt e; rw [h.rD] at this; omega), h.cc.fr hF (fun e => by have := hS C h.cc.lt e; rw [h.rC] at this; omega), ?_, h.wfo⟩
 refine ⟨hk.zero, hk.info, hk.uri, hk.email, hk.phone, hk.conn, hk.key, fun _ => hk.bws (by decide), fun _ => hk.zones (by decide), fun _ => hk.sa (by decide), fun _ => hk.ma (by decide), fun _ _ => hk.times (by decide) (by decide), fun _ _ _ => ⟨rows, ?_⟩⟩
 rw [hmc', hmd']
 have hlen := hM.len
 rw [hmc] at hlen
 refine ⟨hM.row.fr hF (fun k hk e => by have := hM.own k hk; have := hS k (hM.row.base k hk).2 e; omega), fun k hk => by rw [qAj (hM.row.base k hk).2]; exact hM.own k hk, hlen, ?_, (fun e => by cases e), ?_⟩
 · intro i x r hx hr
   exact (hM.done i x r hx hr).keep0 hF (fun k hk e => by have := hS k hk e; omega) (fun k hk e => by rw [qAj hk, e])
 intro y1 hy
 obtain rfl := Option.some.inj hy
 have hft : ∀ (P : World -> Prop), qAq P w (fun k => ρ k = 0) -> qAq P (w6.setCell ⟨V.m.M, 7, none⟩ v6) (fun k => qI1 ρ w.heap.size (fun i => i) v6 12 k = 0) := fun P hP =>
  hP.keep0 hF (fun k hk e => by have := hS k hk e; omega) (fun k hk e => by rw [qAj hk, e])
 have hrow : Row (w6.setCell ⟨V.m.M, 7, none⟩ v6) B 198 3 v6 ((y.bws ++ [x]).map qCj) := by
  rw [List.map_append]
  exact hr.fr (Fr.self (p := ⟨V.m.M, 7, none⟩) v6) (fun k hk e => hvM k hk e)
 exact ⟨k1, ((hC.blk.nw hn).fr hf hMo).set 7 v6, by rw [qAj hMlt]; exact hMr, hC.name, hC.port, hft _ hC.ports, hft _ hC.protos, hft _ hC.fmts, hft _ hC.title, hft _ hC.conn, ⟨qAo.ofFlat hrow (qGx hfl.2 hx), qE9 hown rfl ho' hlt⟩, hft _ hC.key⟩
end PS
end Go.Proofs.YtcepdjlknalmnaaGreatDoor

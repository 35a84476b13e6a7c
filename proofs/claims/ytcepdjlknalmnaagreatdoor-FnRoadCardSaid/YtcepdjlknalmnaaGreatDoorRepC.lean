/- Laws of this claim. -/
import Derived.Test.YtcepdjlknalmnaaGreatDoorStepE
set_option linter.unusedSimpArgs false
set_option linter.unusedVariables false
namespace Go.Proofs.YtcepdjlknalmnaaGreatDoor
open Tryz
open Go.RowKit
theorem qAn {P : Program} {o : Oper} {a : Act} {Q : Exit -> Act -> World -> Prop} {K : Act -> World -> Prop} {W : World} (B : Nat) (s x : Operand) (t e sz : Nat) (z : Value) (bytes : Nat)
 (ho : o.op = .call { callee := .builtin .append, args := #[s, x], argTypes := #[t, t] })
 (ht : P.underlying t = some (.slice e)) (hinfo : (P.info? e).map (fun i => (i.zero, i.size, i.bytes)) = some (some z, sz, bytes)) (hz : z.cells.size = sz) (hsz : 0 < sz)
 (v : Value) (rows : List (List Value)) (r : List Value) (hs : a.eval s = v) (g : Nat) (hx : a.eval x = .slice (some ⟨g, 0, none⟩) 1 1) (hr : r.length = sz /\ ∀ u ∈ r, u.oneCell' = true)
 (hc : ∀ (j : Nat) (u : Value), r[j]? = some u -> W.cell? ⟨g, j, none⟩ = some u)
 (HO : Row W B e sz v rows) (hB : B <= W.heap.size) (hl : (rows.length + 1) * bytes <= 140737488355328) (hl2 : rows.length + 1 <= 140737488355328)
 (h : ∀ v1 w1, Row w1 B e sz v1 (rows ++ [r]) -> Fr (fun k => some k = v.ownBlock) W w1 -> (v1.ownBlock = v.ownBlock ∨ ∃ b, v1.ownBlock = some b /\ W.heap.size <= b) -> K (a.put o.dst v1) w1) :
 o.wp P a W K Q :=
 qGg B s x t e sz z bytes ho ht hinfo hz hsz v rows [r] g 0 1 hs hx (fun r' hr' => by rw [List.mem_singleton.1 hr']; exact hr) (fun k j r' u hk hj => by
  have hk0 : k = 0 := by have := (List.getElem?_eq_some_iff.1 hk).1; simp at this; omega
  subst hk0
  obtain rfl : r = r' := by simpa using hk
  simpa using hc j u hj) HO hB hl hl2 h
theorem inf177 : (prog.info? 177).map (fun i => (i.zero, i.size, i.bytes)) = some (some (.agg #[.int .u64 0, .int .u64 0, .slice none 0 0]), 3, 40) := by kernel_rfl
theorem inf178 : (prog.info? 178).map (fun i => (i.zero, i.size, i.bytes)) = some (some (.agg #[.int .i64 0, .int .i64 0, .slice none 0 0]), 3, 40) := by kernel_rfl
theorem inf181 : (prog.info? 181).map (fun i => (i.zero, i.size, i.bytes)) = some (some (.agg #[.int .u64 0, .int .i64 0]), 2, 16) := by kernel_rfl
theorem inf198 : (prog.info? 198).map (fun i => (i.zero, i.size, i.bytes)) = some (some (.agg #[.bool false, .string ⟨#[]⟩, .int .u64 0]), 3, 32) := by kernel_rfl
theorem qPz : (prog.info? 199).map (fun i => (i.zero, i.size, i.bytes)) = some (some (.agg #[.string ⟨#[]⟩, .string ⟨#[]⟩]), 2, 32) := by kernel_rfl
theorem inf182 : (prog.info? 182).map (fun i => (i.zero, i.size, i.bytes)) = some (some (.pointer none), 1, 8) := by kernel_rfl
def newOf (v : Value) (i : Nat) : Nat -> Nat := fun k => if some k = v.ownBlock then i else 0
def qI1 (ρ : Nat -> Nat) (n : Nat) (old : Nat -> Nat) (v : Value) (i : Nat) : Nat -> Nat := fun k => if k < n then old (ρ k) else newOf v i k
theorem qAj {ρ : Nat -> Nat} {n : Nat} {old : Nat -> Nat} {v : Value} {i k : Nat} (h : k < n) : qI1 ρ n old v i k = old (ρ k) := by unfold qI1; rw [if_pos h]
theorem qD5 {ρ : Nat -> Nat} {n : Nat} {old : Nat -> Nat} {v : Value} {i k B : Nat} (hz : ∀ k, ¬ ρ k = 0 -> B <= k) (ho : old 0 = 0) (hB : B <= n) (h : ¬ qI1 ρ n old v i k = 0) : B <= k := by
 rcases Nat.lt_or_ge k n with hlt | hge
 · rw [qAj hlt] at h
   exact hz k (fun e => h (by rw [e, ho]))
 omega
theorem qE9 {ρ : Nat -> Nat} {n : Nat} {old : Nat -> Nat} {v v1 : Value} {i : Nat} (hv : ∀ k, v.ownBlock = some k -> ρ k = i) (ho : old i = i) (h1 : v1.ownBlock = v.ownBlock ∨ ∃ b, v1.ownBlock = some b /\ n <= b) (hlt : ∀ k, v.ownBlock = some k -> k < n) : ∀ k, v1.ownBlock = some k -> qI1 ρ n old v1 i k = i := by
 intro k hk
 rcases h1 with h1 | ⟨b, h1, hb⟩
 · have := hlt k (by rw [<- h1, hk])
   rw [qAj this, hv k (by rw [<- h1, hk]), ho]
 have e : k = b := by rw [hk] at h1; exact Option.some.inj h1
 have : ¬ k < n := by omega
 unfold qI1 newOf
 rw [if_neg this, if_pos hk.symm]
def qP0 (i : Nat) : Nat := if i = 9 then 0 else i
theorem PS.addTime {B : Nat} {w w1 w6 : World} {ρ : Nat -> Nat} {L D C : Nat} {s : ByteArray} {p : Nat} {q : Pst} {V : Vs} {rows : List (List Value)} {N : Nat} {x y : Int} {v6 : Value} (h : PS B w ρ L D C s p q V) (ht : TimK ρ w B V.times V.reps q.td q.tc rows) (hN : Small N q) (hN2 : N <= 1000000000) (hn : Nw w w1)
 (hr : Row w6 B 177 3 v6 (rows ++ [[.int .u64 x, .int .u64 y, .slice none 0 0]])) (hf : Fr (fun k => some k = V.times.ownBlock) w1 w6) (ho : v6.ownBlock = V.times.ownBlock ∨ ∃ b, v6.ownBlock = some b /\ w1.heap.size <= b) (hx : qAg .u64 x) (hy : qAg .u64 y) (rp : List Rep) :
 (∃ ρ', PS B (w6.setCell ⟨D, 14, none⟩ v6) ρ' L D C s p (q.app (.lt ⟨x, y, rp⟩)) { V with times := v6, reps := .slice none 0 0 }) /\ Fr (fun k => B <= k) w (w6.setCell ⟨D, 14, none⟩ v6) := by
 have hBw : B <= w.heap.size := by have := h.BD; have := h.dd.lt; omega
 have hF : Fr (fun k => some k = V.times.ownBlock ∨ k = D) w (w6.setCell ⟨D, 14, none⟩ v6) :=
  ((hn.fr _).trans (hf.mono (fun k _ e => .inl (.inl e)))).setCell (.inl (.inr rfl)) _
 have ho' : v6.ownBlock = V.times.ownBlock ∨ ∃ b, v6.ownBlock = some b /\ w.heap.size <= b := ho.imp id (fun ⟨b, h1, h2⟩ => ⟨b, h1, Nat.le_trans hn.size h2⟩)
 have hlt : ∀ k, V.times.ownBlock = some k -> k < w.heap.size := fun k hk => (ht.row.base k hk).2
 have hS : ∀ k, k < w.heap.size -> (some k = V.times.ownBlock ∨ k = D) -> ρ k = 8 ∨ ρ k = 2 := fun k _ e => e.imp (fun e => ht.own k e.symm) (fun e => by rw [e]; exact h.rD)
 have hvD : ¬ v6.ownBlock = some D := fun e => by
  rcases ho' with h1 | ⟨b, h1, h2⟩
  · have := ht.own D (by rw [<- h1, e]); rw [h.rD] at this; cases this
  rw [e] at h1; have := Option.some.inj h1; have := h.dd.lt; omega
 have hd6 : Blk w6 D (qCg q V) 115 := (h.dd.nw hn).fr hf (fun e => by have := ht.own D e.symm; rw [h.rD] at this; cases this)
 refine ⟨?_, hF.mono (fun k _ e => e.elim (fun e => (ht.row.base k e.symm).1) (fun e => e ▸ h.BD))⟩
 refine ⟨qI1 ρ w.heap.size qP0 v6 8, ?_⟩
 have hk := h.kp.keep (R' := fun i => i = 2 ∨ i = 8 ∨ i = 9) (ρ' := qI1 ρ w.heap.size qP0 v6 8) hF (fun k hk e => by have := hS k hk e; omega) (fun _ e => e.elim) (by decide) (fun k hk e => by
  rw [qAj hk]; unfold qP0; rw [if_neg (by omega)]) (fun k hk => qD5 h.kp.zero rfl hBw hk)
 refine ⟨by rw [qAj h.lx.lt, h.rL]; rfl, by rw [qAj h.dd.lt, h.rD]; rfl, by rw [qAj h.cc.lt, h.rC]; rfl, by rw [qAj h.size0, h.rz]; rfl,
  h.lx.fr hF (fun e => by have := hS L h.lx.lt e; rw [h.rL] at this; omega), hd6.set 14 _, h.cc.fr hF (fun e => by have := hS C h.cc.lt e; rw [h.rC] at this; omega), ?_, h.wfo⟩
 refine ⟨hk.zero, hk.info, hk.uri, hk.email, hk.phone, hk.conn, hk.key, fun _ => hk.bws (by decide), fun _ => hk.zones (by decide), fun _ => hk.sa (by decide), fun _ => hk.ma (by decide), fun _ _ => ⟨rows ++ [[.int .u64 x, .int .u64 y, .slice none 0 0]], ?_⟩, fun _ _ _ => hk.media (by decide) (by decide) (by decide)⟩
 have h0 : ∀ k, k < w.heap.size -> ρ k = 0 ∨ ρ k = 9 -> qI1 ρ w.heap.size qP0 v6 8 k = 0 := fun k hk e => by
  rw [qAj hk]; unfold qP0; rcases e with e | e <;> rw [e] <;> rfl
 have hlen := ht.len
 have htc : (q.tc.toList).length <= 1 := by cases q.tc <;> simp
 refine ⟨hr.fr ((Fr.refl (fun k => k = D) w6).put _) (fun k hk e => hvD (by rw [hk, e])), qE9 ht.own rfl ho' hlt, ?_, ?_, fun e => by simp [Pst.app] at e, ?_⟩
 · simp [Pst.app, hlen]
 · intro i t r hi hr'
   simp only [Pst.app] at hi
   have hil : i < q.td.length + q.tc.toList.length := by have := (List.getElem?_eq_some_iff.1 hi).1; simpa using this
   rw [List.getElem?_append_left (by omega)] at hr'
   rcases Nat.lt_or_ge i q.td.length with hlt2 | hge
   · rw [List.getElem?_append_left hlt2] at hi
     exact (ht.done i t r hi hr').keep0 hF (fun k hk e => by have := hS k hk e; omega) (fun k hk e => h0 k hk (.inl e))
   have hi2 : i = q.td.length := by omega
   subst hi2
   rw [List.getElem?_append_right (Nat.le_refl _), Nat.sub_self] at hi
   have htc2 : q.tc = some t := by
    cases hq : q.tc with
    | none => rw [hq] at hi; simp at hi
    | some t' => rw [hq] at hi; simpa using hi
   obtain ⟨g1, g2, g3, g4⟩ := ht.last t htc2
   rw [g1] at hr'
   obtain rfl := Option.some.inj hr'
   have hf4 : qAq (fun W => qCc.rel W t [.int .u64 t.start, .int .u64 t.stop, V.reps]) w (fun k => ρ k = 0 ∨ ρ k = 9) := (g4.foot (by have := hN.reps t htc2; omega)).imp (fun W hW => ⟨_, rfl, g2, g3, hW⟩)
   exact (hf4.fr hF (fun k hk e1 e2 => by have := hS k hk e2; omega)).mono (fun k _ e => h0 k e.2 e.1)
 intro t htt
 simp only [Pst.app, Option.some.injEq] at htt
 subst htt
 refine ⟨?_, hx, hy, qIc.nil _ _ _ _ _ _⟩
 simp only [Pst.app, List.length_append]
 rw [List.getElem?_append_right (by omega), hlen, Nat.sub_self]
 rfl
end Go.Proofs.YtcepdjlknalmnaaGreatDoor
/- A part of a row's element is set; the cache's attributes. -/
namespace Go.Proofs.YtcepdjlknalmnaaGreatDoor
open Tryz
open Go.RowKit
theorem qGl {sz : Nat} {u : Value} {j : Nat} (hj : j < sz) : ∀ {rows : List (List Value)} {k : Nat} {r : List Value}, (∀ r ∈ rows, r.length = sz) -> rows[k]? = some r -> (rows.set k (r.set j u)).flatten = rows.flatten.set (k * sz + j) u
 | [], k, _, _, hk => by simp at hk
 | r0 :: rows, 0, r, h, hk => by
  obtain rfl : r0 = r := by simpa using hk
  have h0 := h r0 List.mem_cons_self
  simp only [List.set_cons_zero, List.flatten_cons, Nat.zero_mul, Nat.zero_add]
  rw [List.set_append_left _ _ (by omega)]
 | r0 :: rows, k + 1, r, h, hk => by
  have h0 := h r0 List.mem_cons_self
  simp only [List.set_cons_succ, List.flatten_cons]
  rw [qGl hj (fun r hr => h r (List.mem_cons_of_mem _ hr)) (by simpa using hk), List.set_append_right _ _ (by rw [h0, Nat.succ_mul]; omega), h0, show (k + 1) * sz + j - sz = k * sz + j by rw [Nat.succ_mul]; omega]
namespace Row
variable {w w1 : World} {B e sz : Nat} {v : Value} {rows : List (List Value)}
theorem form1 (h : Row w B e sz v rows) (h0 : 0 < rows.length) : ∃ g c, v = .slice (some ⟨g, 0, none⟩) rows.length c := by
 rcases h.2.2 with ⟨rfl, h1⟩ | ⟨g, cap, cur, rfl, _⟩
 · omega
 exact ⟨g, cap, rfl⟩
theorem cell (h : Row w B e sz v rows) {g k j : Nat} {r : List Value} {u : Value} (hg : v.ownBlock = some g) (hk : rows[k]? = some r) (hj : r[j]? = some u) : w.cell? ⟨g, k * sz + j, none⟩ = some u := by
 have := h.2.cells hg (k * sz + j) u (qE0 (fun r hr => (h.1 r hr).1) hk hj)
 rwa [qE1, Nat.zero_add] at this
theorem fz (h : Row w B e sz v rows) {g k : Nat} (hg : v.ownBlock = some g) : w.frozen? ⟨g, k, none⟩ = false := by
 rcases h.2.2 with ⟨rfl, h1⟩ | ⟨g', cap, cur, rfl, _, hh, _⟩
 · cases hg
 obtain rfl : g' = g := by simpa [Value.ownBlock] using hg
 simp [World.frozen?, hh]
theorem set (h : Row w B e sz v rows) {g k j : Nat} {r : List Value} {u : Value} (hg : v.ownBlock = some g) (hk : rows[k]? = some r) (hj : j < sz) (hu : u.oneCell' = true) : Row (w.setCell ⟨g, k * sz + j, none⟩ u) B e sz v (rows.set k (r.set j u)) := by
 have hlk := (List.getElem?_eq_some_iff.1 hk).1
 have hm := List.mem_of_getElem? hk
 refine ⟨fun r' hr' => ?_, ?_, ?_⟩
 · rcases List.mem_or_eq_of_mem_set hr' with h1 | h1
   · exact h.1 r' h1
   subst h1
   refine ⟨by rw [List.length_set]; exact (h.1 r hm).1, fun u' hu' => ?_⟩
   rcases List.mem_or_eq_of_mem_set hu' with h2 | h2
   · exact (h.1 r hm).2 u' h2
   rw [h2]; exact hu
 · rw [qGl hj (fun r hr => (h.1 r hr).1) hk, List.length_set, List.length_set]
   exact h.2.1
 rcases h.2.2 with ⟨rfl, h1⟩ | ⟨g', cap, cur, rfl, hb, hh, hc, hm2, hs, ht⟩
 · cases hg
 obtain rfl : g' = g := by simpa [Value.ownBlock] using hg
 refine .inr ⟨g', cap, cur.setIfInBounds (k * sz + j) u, by rw [List.length_set], hb, ?_, by rw [List.length_set]; exact hc, hm2, by simpa using hs, ?_⟩
 · have hlt : g' < w.heap.size := by
    rcases Nat.lt_or_ge g' w.heap.size with h' | h'
    · exact h'
    simp [Array.getElem?_eq_none h'] at hh
   have h' : w.heap[g'] = .cells cur e (0, 0) := by simpa [Array.getElem?_eq_getElem hlt] using hh
   show (w.heap.modify g' _)[g']? = _
   rw [Array.getElem?_eq_getElem (by simpa using hlt), Array.getElem_modify_self, h']
   rfl
 rw [qGl hj (fun r hr => (h.1 r hr).1) hk, <- ht, List.length_set, Array.toList_setIfInBounds, List.take_set]
end Row
theorem qFy {α : Type} (l : List α) (x y : α) : (l ++ [x]).set l.length y = l ++ [y] := by
 rw [List.set_append_right _ _ (Nat.le_refl _), Nat.sub_self]; rfl
theorem qCr {α : Type} (l : List α) (x : α) : (l ++ [x])[l.length]? = some x := by
 rw [List.getElem?_append_right (Nat.le_refl _), Nat.sub_self]; rfl
def qG8 : List Value := [.string ⟨#[]⟩, .string ⟨#[]⟩]
def GotAtt (B C : Nat) (i : Nat) (vs vo : Value) (rows : List (List Value)) (w : World) (e : Ending) (w' : World) : Prop :=
 ∃ g v', e = .returned (.pointer (some ⟨g, rows.length * 2, none⟩)) /\ v'.ownBlock = some g /\ Row w' B 199 2 v' (rows ++ [qG8]) /\ Blk w' C (if i = 0 then [v', vo] else [vo, v']) 155 /\ Fr (fun k => some k = vs.ownBlock ∨ k = C) w w' /\ (v'.ownBlock = vs.ownBlock ∨ ∃ b, v'.ownBlock = some b /\ w.heap.size <= b)
set_option maxRecDepth 100000 in
set_option maxHeartbeats 1000000 in
theorem qId (B C : Nat) (vs vo : Value) (rows : List (List Value)) (w : World) (hC : Blk w C [vs, vo] 155) (hr : Row w B 199 2 vs rows) (hl : rows.length <= 1000000000) (hne : ¬ some C = vs.ownBlock) (hB : B <= w.heap.size) :
 Calls prog 255 #[.pointer (some ⟨C, 0, none⟩)] w (GotAtt B C 0 vs vo rows w) := by
 have c0 := hC.cell 0 rfl
 have hR : qG8.length = 2 /\ ∀ u ∈ qG8, u.oneCell' = true := by
  refine ⟨rfl, fun u hu => ?_⟩
  simp only [qG8, List.mem_cons, List.not_mem_nil, or_false] at hu
  rcases hu with rfl | rfl <;> rfl
 go_enter func255, ntmps255
 go_upto_region 2 with ((refine qAc rfl fun K hK => ?_; (with_reducible refine qAn B (.tmp 7) (.tmp 9) 112 199 2 (.agg #[.string ⟨#[]⟩, .string ⟨#[]⟩]) 32 ?_ underlying112 qPz ?_ ?_ vs rows qG8 ?_ w.heap.size ?_ hR ?_ ?_ ?_ ?_ ?_ ?_); (focus rfl); (focus rfl); (focus decide); (focus rfl); (focus rfl); (focus (exact fun j u hu => Blk.cell (Blk.made w qG8 199) j hu)); (focus (exact hr.alloc _)); (focus (simp; omega)); (focus omega); (focus omega); intro v1 w1 hr1 hf1 ho1; refine hK _ _ ?_); have hC1 := (hC.alloc _).fr hf1 hne; obtain ⟨g, cap, rfl⟩ := hr1.form1 (by simp); have c1 := hC1.cell 0 rfl; have z1 := hC1.fz 0)
 obtain ⟨w2, hw2⟩ : ∃ w2, w2 = w1.setCell ⟨C, 0, none⟩ (.slice (some ⟨g, 0, none⟩) (rows.length + 1) cap) := ⟨_, rfl⟩
 have e1 : (Value.slice (some ⟨g, 0, none⟩) (rows ++ [qG8]).length cap) = Value.slice (some ⟨g, 0, none⟩) (rows.length + 1) cap := by simp
 rw [e1] at hr1 ho1
 have hgC : ¬ g = C := fun e => by
  rcases ho1 with h1 | ⟨b, h1, h2⟩
  · exact hne (by rw [<- h1, e]; rfl)
  have h3 : g = b := Option.some.inj h1
  have := hC.lt
  simp only [World.alloc, Array.size_push] at h2
  omega
 have hr2 : Row w2 B 199 2 (.slice (some ⟨g, 0, none⟩) (rows.length + 1) cap) (rows ++ [qG8]) := by
  rw [hw2]
  exact hr1.fr ((Fr.refl (fun k => k = C) w1).put _) (fun k hk e => hgC (by simp [Value.ownBlock] at hk; omega))
 have hC2 : Blk w2 C [.slice (some ⟨g, 0, none⟩) (rows.length + 1) cap, vo] 155 := by rw [hw2]; exact hC1.set 0 _
 have hf2 : Fr (fun k => some k = vs.ownBlock ∨ k = C) w w2 := by
  rw [hw2]
  exact ((((Nw.refl w).alloc _).fr _).trans (hf1.mono (fun k _ e => .inl (.inl e)))).setCell (.inl (.inr rfl)) _
 have ho2 : (Value.slice (some ⟨g, 0, none⟩) (rows.length + 1) cap).ownBlock = vs.ownBlock ∨ ∃ b, (Value.slice (some ⟨g, 0, none⟩) (rows.length + 1) cap).ownBlock = some b /\ w.heap.size <= b := ho1.imp id (fun ⟨b, h1, h2⟩ => ⟨b, h1, by simp only [World.alloc, Array.size_push] at h2; omega⟩)
 have c2 := hC2.cell 0 rfl
 rw [<- hw2]
 clear hw2 c1 z1 hC1 hf1 hr1 ho1 c0 hR
 have k1 : IntKind.i64.wrap ((rows.length : Int) + 1 - 1) = (rows.length : Int) := by
  rw [IntWalk.i64_in _ (by omega)]; omega
 have k2 : (0 : Int) <= (rows.length : Int) := by omega
 have k3 : (rows.length : Int) < (rows.length : Int) + 1 := by omega
 go_quiet (fail)
 go_wp2
 go_ret
 exact ⟨g, _, rfl, rfl, hr2.nw ((Nw.refl _).drewN _), hC2.drewN _, hf2.drewN _, ho2⟩
set_option maxRecDepth 100000 in
set_option maxHeartbeats 1000000 in
theorem qJb (B C : Nat) (vs vo : Value) (rows : List (List Value)) (w : World) (hC : Blk w C [vo, vs] 155) (hr : Row w B 199 2 vs rows) (hl : rows.length <= 1000000000) (hne : ¬ some C = vs.ownBlock) (hB : B <= w.heap.size) :
 Calls prog 280 #[.pointer (some ⟨C, 0, none⟩)] w (GotAtt B C 1 vs vo rows w) := by
 have c0 := hC.cell 1 rfl
 have hR : qG8.length = 2 /\ ∀ u ∈ qG8, u.oneCell' = true := by
  refine ⟨rfl, fun u hu => ?_⟩
  simp only [qG8, List.mem_cons, List.not_mem_nil, or_false] at hu
  rcases hu with rfl | rfl <;> rfl
 go_enter func280, ntmps280
 go_upto_region 2 with ((refine qAc rfl fun K hK => ?_; (with_reducible refine qAn B (.tmp 7) (.tmp 9) 112 199 2 (.agg #[.string ⟨#[]⟩, .string ⟨#[]⟩]) 32 ?_ underlying112 qPz ?_ ?_ vs rows qG8 ?_ w.heap.size ?_ hR ?_ ?_ ?_ ?_ ?_ ?_); (focus rfl); (focus rfl); (focus decide); (focus rfl); (focus rfl); (focus (exact fun j u hu => Blk.cell (Blk.made w qG8 199) j hu)); (focus (exact hr.alloc _)); (focus (simp; omega)); (focus omega); (focus omega); intro v1 w1 hr1 hf1 ho1; refine hK _ _ ?_); have hC1 := (hC.alloc _).fr hf1 hne; obtain ⟨g, cap, rfl⟩ := hr1.form1 (by simp); have c1 := hC1.cell 1 rfl; have z1 := hC1.fz 1)
 obtain ⟨w2, hw2⟩ : ∃ w2, w2 = w1.setCell ⟨C, 1, none⟩ (.slice (some ⟨g, 0, none⟩) (rows.length + 1) cap) := ⟨_, rfl⟩
 have e1 : (Value.slice (some ⟨g, 0, none⟩) (rows ++ [qG8]).length cap) = Value.slice (some ⟨g, 0, none⟩) (rows.length + 1) cap := by simp
 rw [e1] at hr1 ho1
 have hgC : ¬ g = C := fun e => by
  rcases ho1 with h1 | ⟨b, h1, h2⟩
  · exact hne (by rw [<- h1, e]; rfl)
  have h3 : g = b := Option.some.inj h1
  have := hC.lt
  simp only [World.alloc, Array.size_push] at h2
  omega
 have hr2 : Row w2 B 199 2 (.slice (some ⟨g, 0, none⟩) (rows.length + 1) cap) (rows ++ [qG8]) := by
  rw [hw2]
  exact hr1.fr ((Fr.refl (fun k => k = C) w1).put _) (fun k hk e => hgC (by simp [Value.ownBlock] at hk; omega))
 have hC2 : Blk w2 C [vo, .slice (some ⟨g, 0, none⟩) (rows.length + 1) cap] 155 := by rw [hw2]; exact hC1.set 1 _
 have hf2 : Fr (fun k => some k = vs.ownBlock ∨ k = C) w w2 := by
  rw [hw2]
  exact ((((Nw.refl w).alloc _).fr _).trans (hf1.mono (fun k _ e => .inl (.inl e)))).setCell (.inl (.inr rfl)) _
 have ho2 : (Value.slice (some ⟨g, 0, none⟩) (rows.length + 1) cap).ownBlock = vs.ownBlock ∨ ∃ b, (Value.slice (some ⟨g, 0, none⟩) (rows.length + 1) cap).ownBlock = some b /\ w.heap.size <= b := ho1.imp id (fun ⟨b, h1, h2⟩ => ⟨b, h1, by simp only [World.alloc, Array.size_push] at h2; omega⟩)
 have c2 := hC2.cell 1 rfl
 rw [<- hw2]
 clear hw2 c1 z1 hC1 hf1 hr1 ho1 c0 hR
 have k1 : IntKind.i64.wrap ((rows.length : Int) + 1 - 1) = (rows.length : Int) := by
  rw [IntWalk.i64_in _ (by omega)]; omega
 have k2 : (0 : Int) <= (rows.length : Int) := by omega
 have k3 : (rows.length : Int) < (rows.length : Int) + 1 := by omega
 go_quiet (fail)
 go_wp2
 go_ret
 exact ⟨g, _, rfl, rfl, hr2.nw ((Nw.refl _).drewN _), hC2.drewN _, hf2.drewN _, ho2⟩
end Go.Proofs.YtcepdjlknalmnaaGreatDoor
/- What the reader's blocks are behind one more bandwidth, zone, attribute. Written by a small program of this claim's own (genrep). -/
namespace Go.Proofs.YtcepdjlknalmnaaGreatDoor
open Tryz
open Go.RowKit
theorem qAo.toFlat {α : Type} {sz : Nat} {enc : α -> List Value} {wf : α -> Prop} {hl : ∀ x, (enc x).length = sz} {h1 : ∀ x, ∀ u ∈ enc x, u.oneCell' = true} {w : World} {B e : Nat} {v : Value} {xs : List α} {ok : Nat -> Prop} (h : qAo (Ty.flat sz enc wf hl h1) w B e v xs ok) : Row w B e sz v (xs.map enc) /\ ∀ x ∈ xs, wf x := by
 obtain ⟨rows, hr, hlen, hf⟩ := h
 have he : rows = xs.map enc := by
  apply List.ext_getElem
  · simp [hlen]
  intro i h1 h2
  have := (hf i _ _ (List.getElem?_eq_getElem (by omega)) (List.getElem?_eq_getElem h1)).now
  rw [this.1]; simp
 refine ⟨by rw [<- he]; exact hr, fun x hx => ?_⟩
 obtain ⟨i, hi, rfl⟩ := List.getElem_of_mem hx
 exact (hf i _ _ (List.getElem?_eq_getElem hi) (List.getElem?_eq_getElem (by omega))).now.2
theorem qAo.ofFlat {α : Type} {sz : Nat} {enc : α -> List Value} {wf : α -> Prop} {hl : ∀ x, (enc x).length = sz} {h1 : ∀ x, ∀ u ∈ enc x, u.oneCell' = true} {w : World} {B e : Nat} {v : Value} {xs : List α} {ok : Nat -> Prop} (h : Row w B e sz v (xs.map enc)) (hw : ∀ x ∈ xs, wf x) : qAo (Ty.flat sz enc wf hl h1) w B e v xs ok :=
 ⟨xs.map enc, h, by simp, fun i x r hx hr => by
  rw [List.getElem?_map, hx] at hr
  obtain rfl := Option.some.inj hr
  exact fun W _ => ⟨rfl, hw x (List.mem_of_getElem? hx)⟩⟩
theorem qGx {α : Type} {p : α -> Prop} {xs : List α} {x : α} (h : ∀ y ∈ xs, p y) (hx : p x) : ∀ y ∈ xs ++ [x], p y := fun y hy => by
 rcases List.mem_append.1 hy with hy | hy
 · exact h y hy
 rw [List.mem_singleton.1 hy]; exact hx
def qCj (x : Bwd) : List Value := [.bool x.x, .string x.ty, .int .u64 x.n]
def qJc (x : Zon) : List Value := [.int .u64 x.time, .int .i64 x.off]
def qA2 (x : Att) : List Value := [.string x.key, .string x.val]
theorem PS.addBw {B : Nat} {w w6 : World} {ρ : Nat -> Nat} {L D C : Nat} {s : ByteArray} {p : Nat} {q : Pst} {V : Vs} {x : Bwd} {v6 : Value} (h : PS B w ρ L D C s p q V)
 (hr : Row w6 B 198 3 v6 ((q.bws ++ [x]).map qCj)) (hf : Fr (fun k => some k = V.bws.ownBlock ∨ k = D) w w6) (ho : v6.ownBlock = V.bws.ownBlock ∨ ∃ b, v6.ownBlock = some b /\ w.heap.size <= b) (hd : Blk w6 D (qCg q { V with bws := v6 }) 115) (hx : qAb x.ty /\ qAg .u64 x.n) :
 (∃ ρ', PS B w6 ρ' L D C s p (q.app (.lb x)) { V with bws := v6 }) /\ Fr (fun k => B <= k) w w6 := by
 have hK := h.kp.bws (fun e => e)
 have hfl := qAo.toFlat hK.1
 have hown := hK.2
 have hBw : B <= w.heap.size := by have := h.BD; have := h.dd.lt; omega
 have hlt : ∀ k, V.bws.ownBlock = some k -> k < w.heap.size := fun k hk => (qAo.base hK.1 k hk).2
 have hS : ∀ k, k < w.heap.size -> (some k = V.bws.ownBlock ∨ k = D) -> ρ k = 4 ∨ ρ k = 2 := fun k _ e => e.imp (fun e => hown k e.symm) (fun e => by rw [e]; exact h.rD)
 have hwf := qGx hfl.2 hx
 refine ⟨?_, hf.mono (fun k _ e => e.elim (fun e => (qAo.base hK.1 k e.symm).1) (fun e => e ▸ h.BD))⟩
 refine ⟨qI1 ρ w.heap.size (fun i => i) v6 4, ?_⟩
 have hk := h.kp.keep (R' := fun i => i = 2 ∨ i = 4) (ρ' := qI1 ρ w.heap.size (fun i => i) v6 4) hf (fun k hk e => by have := hS k hk e; omega) (fun _ e => e.elim) (by decide) (fun k hk e => qAj hk) (fun k hk => qD5 h.kp.zero rfl hBw hk)
 refine ⟨by rw [qAj h.lx.lt, h.rL], by rw [qAj h.dd.lt, h.rD], by rw [qAj h.cc.lt, h.rC], by rw [qAj h.size0, h.rz],
  h.lx.fr hf (fun e => by have := hS L h.lx.lt e; rw [h.rL] at this; omega), hd, h.cc.fr hf (fun e => by have := hS C h.cc.lt e; rw [h.rC] at this; omega), ?_, h.wfo⟩
 exact ⟨hk.zero, hk.info, hk.uri, hk.email, hk.phone, hk.conn, hk.key, fun _ => ⟨qAo.ofFlat hr hwf, qE9 hown rfl ho hlt⟩, fun _ => hk.zones (by decide), fun _ => hk.sa (by decide), fun _ => hk.ma (by decide), fun _ _ => hk.times (by decide) (by decide), fun _ _ _ => hk.media (by decide) (by decide) (by decide)⟩
theorem PS.addZone {B : Nat} {w w6 : World} {ρ : Nat -> Nat} {L D C : Nat} {s : ByteArray} {p : Nat} {q : Pst} {V : Vs} {x : Zon} {v6 : Value} (h : PS B w ρ L D C s p q V)
 (hr : Row w6 B 181 2 v6 ((q.zones ++ [x]).map qJc)) (hf : Fr (fun k => some k = V.zones.ownBlock ∨ k = D) w w6) (ho : v6.ownBlock = V.zones.ownBlock ∨ ∃ b, v6.ownBlock = some b /\ w.heap.size <= b) (hd : Blk w6 D (qCg q { V with zones := v6 }) 115) (hx : qAg .u64 x.time /\ qAg .i64 x.off) :
 (∃ ρ', PS B w6 ρ' L D C s p (q.app (.lz [x])) { V with zones := v6 }) /\ Fr (fun k => B <= k) w w6 := by
 have hK := h.kp.zones (fun e => e)
 have hfl := qAo.toFlat hK.1
 have hown := hK.2
 have hBw : B <= w.heap.size := by have := h.BD; have := h.dd.lt; omega
 have hlt : ∀ k, V.zones.ownBlock = some k -> k < w.heap.size := fun k hk => (qAo.base hK.1 k hk).2
 have hS : ∀ k, k < w.heap.size -> (some k = V.zones.ownBlock ∨ k = D) -> ρ k = 5 ∨ ρ k = 2 := fun k _ e => e.imp (fun e => hown k e.symm) (fun e => by rw [e]; exact h.rD)
 have hwf := qGx hfl.2 hx
 refine ⟨?_, hf.mono (fun k _ e => e.elim (fun e => (qAo.base hK.1 k e.symm).1) (fun e => e ▸ h.BD))⟩
 refine ⟨qI1 ρ w.heap.size (fun i => i) v6 5, ?_⟩
 have hk := h.kp.keep (R' := fun i => i = 2 ∨ i = 5) (ρ' := qI1 ρ w.heap.size (fun i => i) v6 5) hf (fun k hk e => by have := hS k hk e; omega) (fun _ e => e.elim) (by decide) (fun k hk e => qAj hk) (fun k hk => qD5 h.kp.zero rfl hBw hk)
 refine ⟨by rw [qAj h.lx.lt, h.rL], by rw [qAj h.dd.lt, h.rD], by rw [qAj h.cc.lt, h.rC], by rw [qAj h.size0, h.rz],
  h.lx.fr hf (fun e => by have := hS L h.lx.lt e; rw [h.rL] at this; omega), hd, h.cc.fr hf (fun e => by have := hS C h.cc.lt e; rw [h.rC] at this; omega), ?_, h.wfo⟩
 exact ⟨hk.zero, hk.info, hk.uri, hk.email, hk.phone, hk.conn, hk.key, fun _ => hk.bws (by decide), fun _ => ⟨qAo.ofFlat hr hwf, qE9 hown rfl ho hlt⟩, fun _ => hk.sa (by decide), fun _ => hk.ma (by decide), fun _ _ => hk.times (by decide) (by decide), fun _ _ _ => hk.media (by decide) (by decide) (by decide)⟩
theorem PS.addSa {B : Nat} {w w6 : World} {ρ : Nat -> Nat} {L D C : Nat} {s : ByteArray} {p : Nat} {q : Pst} {V : Vs} {x : Att} {v6 : Value} (h : PS B w ρ L D C s p q V)
 (hr : Row w6 B 199 2 v6 ((q.atts ++ [x]).map qA2)) (hf : Fr (fun k => some k = V.sa.ownBlock ∨ k = C) w w6) (ho : v6.ownBlock = V.sa.ownBlock ∨ ∃ b, v6.ownBlock = some b /\ w.heap.size <= b) (hd : Blk w6 C [v6, V.ma] 155) (hx : qAb x.key /\ qAb x.val) :
 (∃ ρ', PS B w6 ρ' L D C s p (q.app (.la x)) { V with sa := v6 }) /\ Fr (fun k => B <= k) w w6 := by
 have hK := h.kp.sa (fun e => e)
 have hfl := qAo.toFlat hK.1
 have hown := hK.2
 have hBw : B <= w.heap.size := by have := h.BD; have := h.dd.lt; omega
 have hlt : ∀ k, V.sa.ownBlock = some k -> k < w.heap.size := fun k hk => (qAo.base hK.1 k hk).2
 have hS : ∀ k, k < w.heap.size -> (some k = V.sa.ownBlock ∨ k = C) -> ρ k = 6 ∨ ρ k = 3 := fun k _ e => e.imp (fun e => hown k e.symm) (fun e => by rw [e]; exact h.rC)
 have hwf := qGx hfl.2 hx
 refine ⟨?_, hf.mono (fun k _ e => e.elim (fun e => (qAo.base hK.1 k e.symm).1) (fun e => e ▸ h.BC))⟩
 refine ⟨qI1 ρ w.heap.size (fun i => i) v6 6, ?_⟩
 have hk := h.kp.keep (R' := fun i => i = 3 ∨ i = 6) (ρ' := qI1 ρ w.heap.size (fun i => i) v6 6) hf (fun k hk e => by have := hS k hk e; omega) (fun _ e => e.elim) (by decide) (fun k hk e => qAj hk) (fun k hk => qD5 h.kp.zero rfl hBw hk)
 refine ⟨by rw [qAj h.lx.lt, h.rL], by rw [qAj h.dd.lt, h.rD], by rw [qAj h.cc.lt, h.rC], by rw [qAj h.size0, h.rz],
  h.lx.fr hf (fun e => by have := hS L h.lx.lt e; rw [h.rL] at this; omega), h.dd.fr hf (fun e => by have := hS D h.dd.lt e; rw [h.rD] at this; omega), hd, ?_, h.wfo⟩
 exact ⟨hk.zero, hk.info, hk.uri, hk.email, hk.phone, hk.conn, hk.key, fun _ => hk.bws (by decide), fun _ => hk.zones (by decide), fun _ => ⟨qAo.ofFlat hr hwf, qE9 hown rfl ho hlt⟩, fun _ => hk.ma (by decide), fun _ _ => hk.times (by decide) (by decide), fun _ _ _ => hk.media (by decide) (by decide) (by decide)⟩
theorem PS.addMa {B : Nat} {w w6 : World} {ρ : Nat -> Nat} {L D C : Nat} {s : ByteArray} {p : Nat} {q : Pst} {V : Vs} {x : Att} {v6 : Value} (h : PS B w ρ L D C s p q V)
 (hr : Row w6 B 199 2 v6 ((q.ma ++ [x]).map qA2)) (hf : Fr (fun k => some k = V.ma.ownBlock ∨ k = C) w w6) (ho : v6.ownBlock = V.ma.ownBlock ∨ ∃ b, v6.ownBlock = some b /\ w.heap.size <= b) (hd : Blk w6 C [V.sa, v6] 155) (hx : qAb x.key /\ qAb x.val) :
 (∃ ρ', PS B w6 ρ' L D C s p (q.app (.ma x)) { V with ma := v6 }) /\ Fr (fun k => B <= k) w w6 := by
 have hK := h.kp.ma (fun e => e)
 have hfl := qAo.toFlat hK.1
 have hown := hK.2
 have hBw : B <= w.heap.size := by have := h.BD; have := h.dd.lt; omega
 have hlt : ∀ k, V.ma.ownBlock = some k -> k < w.heap.size := fun k hk => (qAo.base hK.1 k hk).2
 have hS : ∀ k, k < w.heap.size -> (some k = V.ma.ownBlock ∨ k = C) -> ρ k = 7 ∨ ρ k = 3 := fun k _ e => e.imp (fun e => hown k e.symm) (fun e => by rw [e]; exact h.rC)
 have hwf := qGx hfl.2 hx
 refine ⟨?_, hf.mono (fun k _ e => e.elim (fun e => (qAo.base hK.1 k e.symm).1) (fun e => e ▸ h.BC))⟩
 refine ⟨qI1 ρ w.heap.size (fun i => i) v6 7, ?_⟩
 have hk := h.kp.keep (R' := fun i => i = 3 ∨ i = 7) (ρ' := qI1 ρ w.heap.size (fun i => i) v6 7) hf (fun k hk e => by have := hS k hk e; omega) (fun _ e => e.elim) (by decide) (fun k hk e => qAj hk) (fun k hk => qD5 h.kp.zero rfl hBw hk)
 refine ⟨by rw [qAj h.lx.lt, h.rL], by rw [qAj h.dd.lt, h.rD], by rw [qAj h.cc.lt, h.rC], by rw [qAj h.size0, h.rz],
  h.lx.fr hf (fun e => by have := hS L h.lx.lt e; rw [h.rL] at this; omega), h.dd.fr hf (fun e => by have := hS D h.dd.lt e; rw [h.rD] at this; omega), hd, ?_, h.wfo⟩
 exact ⟨hk.zero, hk.info, hk.uri, hk.email, hk.phone, hk.conn, hk.key, fun _ => hk.bws (by decide), fun _ => hk.zones (by decide), fun _ => hk.sa (by decide), fun _ => ⟨qAo.ofFlat hr hwf, qE9 hown rfl ho hlt⟩, fun _ _ => hk.times (by decide) (by decide), fun _ _ _ => hk.media (by decide) (by decide) (by decide)⟩
end Go.Proofs.YtcepdjlknalmnaaGreatDoor

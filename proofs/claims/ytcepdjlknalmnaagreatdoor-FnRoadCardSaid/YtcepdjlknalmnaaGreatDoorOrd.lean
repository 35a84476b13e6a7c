/- A region that draws its order and whose last operation writes what it reads: the loads ahead are taken first all the same, since the last operation waits for them. qB7 laws over the kit's Orders. -/
import Derived.OrdersHeld
import Derived.Deep.RegionHeld
import Derived.RegionTactic
namespace Go.Proofs.YtcepdjlknalmnaaGreatDoor
section
variable {P : Program} {ops : Array Oper} {Q : Exit -> Act -> World -> Prop} {md : Region.Mode} {S : World -> Prop} {z : Nat}
def qC2 (P : Program) (md : Region.Mode) (ops : Array Oper) (Q : Exit -> Act -> World -> Prop) (S : World -> Prop) (z : Nat) : Nat -> Array Bool -> Act -> World -> Prop
 | 0, listed, a, w => Region.ready md ops listed = [] /\ Q .normal a w
 | fuel + 1, listed, a, w =>
  (Region.ready md ops listed = [] -> Q .normal a w) ∧
  ∀ i ∈ Region.ready md ops listed, wpOp P ops Q i (fun a' w' => (i ≠ z -> S w') /\ qC2 P md ops Q S z fuel (listed.setIfInBounds i true) a' w') a w
theorem qI5 : ∀ (fuel : Nat) (listed : Array Bool) (a : Act) (w : World), qC2 P md ops Q S z fuel listed a w -> wpAny P md ops Q fuel listed a w
 | 0, _, _, _, h => h
 | fuel + 1, _, _, _, h => ⟨h.1, fun i hi => wpOp_mono (fun a' w' h' => qI5 fuel _ a' w' h'.2) (h.2 i hi)⟩
def Chain (md : Region.Mode) (ops : Array Oper) (i z : Nat) (C : List Nat) : Prop := z ∈ C /\ i ∉ C /\ ∀ c ∈ C, ∀ o, ops[c]? = some o -> ∃ e ∈ o.after, Region.binds md e = true /\ (e.on = i ∨ e.on ∈ C)
theorem Chain.not_ready {i z : Nat} {C : List Nat} (h : Chain md ops i z C) {listed : Array Bool} (hi : listed.getD i false = false) (hC : ∀ c ∈ C, listed.getD c false = false) : ∀ c ∈ C, c ∉ Region.ready md ops listed := fun c hc hr => by
 obtain ⟨_, o, ho, hall⟩ := mem_ready.1 hr
 obtain ⟨e, he, hb, hon⟩ := h.2.2 c hc o ho
 have h1 := hall e he hb
 rcases hon with hon | hon
 · rw [hon, hi] at h1; cases h1
 rw [hC _ hon] at h1; cases h1
theorem qGq {listed : Array Bool} {i : Nat} (h : listed.getD i true = false) : listed.getD i false = false := by
 rcases Nat.lt_or_ge i listed.size with h' | h'
 · simp [h'] at h ⊢; exact h
 simp [Array.getElem?_eq_none h'] at h
theorem qHh {i : Nat} {oi : Oper} {v : Value} {C : List Nat} (hi : ops[i]? = some oi) (hsel : ∀ (j : Nat) (o : Oper) cs b, ops[j]? = some o -> o.op ≠ .select cs b) (hch : Chain md ops i z C)
 (hQ : ∀ c a w, Q (.panic c) (a.put oi.dst v) w -> Q (.panic c) a w) :
 ∀ (fuel : Nat) (listed : Array Bool) (a : Act) (w : World),
  (∀ j oj, ops[j]? = some oj -> j ≠ i -> listed.getD j true = false -> (∀ e ∈ oj.after, Region.binds md e = true -> e.on ≠ i) -> oi.apart ops oj = true) →
  (∀ c ∈ C, listed.getD c false = false) →
  i ∈ Region.ready md ops listed -> YieldsIf P ops S oi v a -> S w →
  qC2 P md ops Q S z fuel (listed.setIfInBounds i true) (a.put oi.dst v) w -> qC2 P md ops Q S z (fuel + 1) listed a w := by
 intro fuel
 induction fuel with
 | zero =>
  intro listed a w _ _ hr hy hS H
  refine ⟨fun h => (by rw [h] at hr; cases hr), fun j hj => ?_⟩
  by_cases hji : j = i
  · subst hji; exact hy.wpOp hi hS ⟨fun _ => hS, H⟩
  have := ready_mono hj hji
  rw [H.1] at this
  cases this
 | succ fuel ih =>
  intro listed a w hfree hC hr hy hS H
  have hiu := qGq (mem_ready.1 hr).1
  refine ⟨fun h => (by rw [h] at hr; cases hr), fun j hj => ?_⟩
  by_cases hji : j = i
  · subst hji; exact hy.wpOp hi hS ⟨fun _ => hS, H⟩
  have h1 := H.2 j (ready_mono hj hji)
  obtain ⟨hjun, oj, hoj, hall⟩ := mem_ready.1 hj
  have hjC : j ∉ C := fun e => hch.not_ready hiu hC j e hj
  have hjz : j ≠ z := fun e => hjC (e ▸ hch.1)
  have hnot : ∀ e ∈ oj.after, Region.binds md e = true -> e.on ≠ i := fun e he hb heq => by
   have h1 := hall e he hb
   rw [heq, hiu] at h1
   cases h1
  have h2 := wpOp_putIf hoj (hfree j oj hoj hji hjun hnot) (fun cs b => hsel i oi cs b hi) (fun cs b => hsel j oj cs b hoj) hQ hy h1
  have hfree' : ∀ k ok, ops[k]? = some ok -> k ≠ i -> (listed.setIfInBounds j true).getD k true = false →
   (∀ e ∈ ok.after, Region.binds md e = true -> e.on ≠ i) -> oi.apart ops ok = true := fun k ok hk hki hun hno => by
   refine hfree k ok hk hki ?_ hno
   by_cases hjk : j = k
   · subst hjk; exact hjun
   rw [getD_set_ne true hjk] at hun; exact hun
  have hC' : ∀ c ∈ C, (listed.setIfInBounds j true).getD c false = false := fun c hc => by
   rw [getD_set_ne false (fun e : j = c => hjC (by rw [e]; exact hc))]
   exact hC c hc
  refine wpOp_mono (fun a' w' h3 => ⟨h3.2.1, ih (listed.setIfInBounds j true) a' w' hfree' hC' (ready_mono hr (Ne.symm hji)) h3.1 (h3.2.1 hjz) ?_⟩) h2
  rw [Array.setIfInBounds_comm _ _ hji]
  exact h3.2.2
def qI6 (md : Region.Mode) (ops : Array Oper) (listed : Array Bool) (i z : Nat) (C : List Nat) : Bool :=
 C.contains z && !C.contains i && C.all fun c => (listed.getD c false == false) && ((ops[c]?).map fun o => o.after.any fun e => Region.binds md e && (e.on == i || C.contains e.on)).getD false
theorem qFw {listed : Array Bool} {i : Nat} {C : List Nat} (h : qI6 md ops listed i z C = true) : Chain md ops i z C /\ ∀ c ∈ C, listed.getD c false = false := by
 unfold qI6 at h
 simp only [Bool.and_eq_true, List.contains_iff_mem, Bool.not_eq_true', List.all_eq_true, beq_iff_eq] at h
 obtain ⟨⟨hz, hi⟩, hall⟩ := h
 refine ⟨⟨hz, (fun e => by rw [List.contains_iff_mem.2 e] at hi; cases hi), fun c hc o ho => ?_⟩, fun c hc => (hall c hc).1⟩
 have h2 := (hall c hc).2
 rw [ho] at h2
 simp only [Option.map_some, Option.getD_some] at h2
 obtain ⟨e, he, hb⟩ := Array.any_eq_true'.1 h2
 simp only [Bool.and_eq_true, Bool.or_eq_true, beq_iff_eq, List.contains_iff_mem] at hb
 exact ⟨e, he, hb.1, hb.2⟩
theorem qGf {i : Nat} {oi : Oper} {v : Value} {fuel : Nat} {listed : Array Bool} {a : Act} {w : World} (hi : ops[i]? = some oi)
 (hs : Region.noSelect ops = true) (hf : Region.free md ops listed i = true) (hr : (Region.ready md ops listed).contains i = true) (hc : qI6 md ops listed i z [z] = true)
 (hQ : ∀ c a w, Q (.panic c) (a.put oi.dst v) w -> Q (.panic c) a w) (hy : YieldsIf P ops S oi v a) (hS : S w)
 (h : qC2 P md ops Q S z fuel (listed.setIfInBounds i true) (a.put oi.dst v) w) : qC2 P md ops Q S z (fuel + 1) listed a w :=
 qHh hi (Region.noSelect_spec hs) (qFw hc).1 hQ fuel listed a w (Region.free_spec hi hf) (qFw hc).2 (by simpa using hr) hy hS h
theorem qFx {i : Nat} {o : Oper} {fuel : Nat} {listed : Array Bool} {a : Act} {w : World} (hr : Region.ready md ops listed = [i]) (ho : ops[i]? = some o) (hz : i ≠ z)
 (h : ∀ K' : Act -> World -> Prop, Shut (∀ a w, S w -> (S w -> qC2 P md ops Q S z fuel (listed.setIfInBounds i true) a w) -> K' a w) -> if Region.wanted o (yielded ops a.tmps) = true then Oper.wp P o a w K' Q else K' (a.put o.dst undef) w) :
 qC2 P md ops Q S z (fuel + 1) listed a w :=
 ⟨(fun h0 => by rw [hr] at h0; cases h0), fun j hj => by
  rw [hr] at hj
  obtain rfl := List.mem_singleton.1 hj
  exact wpOp_step ho (fun K' hK => h K' (fun a w hS hW => hK a w ⟨fun _ => hS, hW hS⟩))⟩
theorem qH3 {o : Oper} {fuel : Nat} {listed : Array Bool} {a : Act} {w : World} (hr : Region.ready md ops listed = [z]) (ho : ops[z]? = some o) (hl : Region.ready md ops (listed.setIfInBounds z true) = [])
 (h : ∀ K' : Act -> World -> Prop, Shut (∀ a w, Q .normal a w -> K' a w) -> if Region.wanted o (yielded ops a.tmps) = true then Oper.wp P o a w K' Q else K' (a.put o.dst undef) w) :
 qC2 P md ops Q S z (fuel + 1) listed a w :=
 ⟨(fun h0 => by rw [hr] at h0; cases h0), fun j hj => by
  rw [hr] at hj
  obtain rfl := List.mem_singleton.1 hj
  refine wpOp_step ho (fun K' hK => h K' (fun a w hq => hK a w ⟨fun e => absurd rfl e, ?_⟩))
  cases fuel with
  | zero => exact ⟨hl, hq⟩
  | succ n => exact ⟨fun _ => hq, by rw [hl]; simp⟩⟩
theorem qAv (z : Nat) (S : World -> Prop) {id : Nat} {a : Act} {w : World} (hm : P.follows .mixedOrders = true) (hS : S w.drew)
 (h : S w.drew -> qC2 P .any ops Q S z ops.size (Array.replicate ops.size false) a w.drew) : (Code.region id ops true).wp P Q a w :=
 wp_region_any hm (qI5 _ _ _ _ (h hS))
theorem qHi {i : Nat} (C : List Nat) {oi : Oper} {v : Value} {fuel : Nat} {listed : Array Bool} {a : Act} {w : World} (hi : ops[i]? = some oi)
 (hs : Region.noSelect ops = true) (hf : Region.free md ops listed i = true) (hr : (Region.ready md ops listed).contains i = true) (hc : qI6 md ops listed i z C = true)
 (hQ : ∀ c a w, Q (.panic c) (a.put oi.dst v) w -> Q (.panic c) a w) (hy : YieldsIf P ops S oi v a) (hS : S w)
 (h : qC2 P md ops Q S z fuel (listed.setIfInBounds i true) (a.put oi.dst v) w) : qC2 P md ops Q S z (fuel + 1) listed a w :=
 qHh hi (Region.noSelect_spec hs) (qFw hc).1 hQ fuel listed a w (Region.free_spec hi hf) (qFw hc).2 (by simpa using hr) hy hS h
theorem tkA (i : Nat) (C : List Nat) {oi : Oper} {v : Value} {fuel : Nat} {listed : Array Bool} {a : Act} {w : World} (hS : S w)
 (h : qC2 P md ops Q S z fuel (listed.setIfInBounds i true) (a.put oi.dst v) w)
 (hi : ops.toList[i]? = some oi := by rfl)
 (hb : (Region.noSelect ops && Region.free md ops listed i && (Region.ready md ops listed).contains i && qI6 md ops listed i z C) = true := by kernel_rfl)
 (hQ : ∀ c a w, Q (.panic c) (a.put oi.dst v) w -> Q (.panic c) a w := by exact fun _ _ _ h => h)
 (hy : YieldsIf P ops S oi v a := by (refine Or.inl ⟨?_, ?_⟩; (focus rfl); (intro w hSw; (try dsimp only at hSw); go_simp; first | done | (with_reducible rfl)))) : qC2 P md ops Q S z (fuel + 1) listed a w := by
 simp only [Bool.and_eq_true] at hb
 exact qHi C (by simpa using hi) hb.1.1.1 hb.1.1.2 hb.1.2 hb.2 hQ hy hS h
end
theorem sP : (∀ (a : Act) (v : Value), a.put none v = a) /\ (∀ (a : Act) (d : Tmp) (v : Value), a.put (some d) v = { a with tmps := a.tmps.setIfInBounds d v }) /\ (∀ {α : Type} (l : List α) (i : Nat) (x : α), l.toArray.setIfInBounds i x = (l.set i x).toArray) /\ (∀ {α : Type} (x : α) (l : List α) (y : α), (x :: l).set 0 y = y :: l) /\ (∀ {α : Type} (x : α) (l : List α) (n : Nat) (y : α), (x :: l).set (n + 1) y = x :: l.set n y) :=
 ⟨fun _ _ => rfl, fun _ _ _ => rfl, fun _ _ _ => by simp, fun _ _ _ => rfl, fun _ _ _ _ => rfl⟩
end Go.Proofs.YtcepdjlknalmnaaGreatDoor

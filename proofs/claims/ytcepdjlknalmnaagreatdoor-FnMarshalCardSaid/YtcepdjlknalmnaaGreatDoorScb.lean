/- The thin package's connection, to the package. Written by a small program of this claim's own (genscb). -/
import Derived.Test.YtcepdjlknalmnaaGreatDoorOrd
import Derived.Test.YtcepdjlknalmnaaGreatDoorLexC
import Derived.Test.YtcepdjlknalmnaaGreatDoorSca
namespace Go.Proofs.YtcepdjlknalmnaaGreatDoor
open Go.RowKit
set_option linter.unusedSimpArgs false
set_option linter.unusedVariables false
section
variable {P : Program} {ops : Array Oper} {Q : Exit → Act → World → Prop} {md : Region.Mode} {S : World → Prop} {z : Nat}
theorem tkZ (i : Nat) (C : List Nat) {oi : Oper} {v : Value} {fuel : Nat} {listed : Array Bool} {a : Act} {w : World} (hi : ops.toList[i]? = some oi)
 (hb : (Region.noSelect ops && Region.free md ops listed i && (Region.ready md ops listed).contains i && chainB md ops listed i z C) = true)
 (hQ : ∀ c a w, Q (.panic c) (a.put oi.dst v) w → Q (.panic c) a w) (hy : YieldsIf P ops S oi v a) (hS : S w)
 (h : wpAnyZ P md ops Q S z fuel (listed.setIfInBounds i true) (a.put oi.dst v) w) : wpAnyZ P md ops Q S z (fuel + 1) listed a w := by
 simp only [Bool.and_eq_true] at hb
 exact wpAnyZ_takeC C (by simpa using hi) hb.1.1.1 hb.1.1.2 hb.1.2 hb.2 hQ hy hS h
def StZ (P : Program) (md : Region.Mode) (ops : Array Oper) (Q : Exit → Act → World → Prop) (S : World → Prop) (z fuel : Nat) (listed : Array Bool) (a : Act) (w : World) (i : Nat) (o : Oper) : Prop :=
 ∀ K' : Act → World → Prop, Shut (∀ a w, S w → (S w → wpAnyZ P md ops Q S z fuel (listed.setIfInBounds i true) a w) → K' a w) → if Region.wanted o (yielded ops a.tmps) = true then Oper.wp P o a w K' Q else K' (a.put o.dst undef) w
theorem stZ1 (i : Nat) {o : Oper} {fuel : Nat} {listed : Array Bool} {a : Act} {w : World} (hr : Region.ready md ops listed = [i]) (ho : ops.toList[i]? = some o) (hz : i ≠ z)
 (h : StZ P md ops Q S z fuel listed a w i o) : wpAnyZ P md ops Q S z (fuel + 1) listed a w := wpAnyZ_one hr (by simpa using ho) hz h
theorem stZ_last {o : Oper} {fuel : Nat} {listed : Array Bool} {a : Act} {w : World} (hr : Region.ready md ops listed = [z]) (ho : ops.toList[z]? = some o) (hl : Region.ready md ops (listed.setIfInBounds z true) = [])
 (h : ∀ K' : Act → World → Prop, Shut (∀ a w, Q .normal a w → K' a w) → if Region.wanted o (yielded ops a.tmps) = true then Oper.wp P o a w K' Q else K' (a.put o.dst undef) w) :
 wpAnyZ P md ops Q S z (fuel + 1) listed a w := wpAnyZ_last hr (by simpa using ho) hl h
end
theorem new_blk (w : World) (l : List Value) (t : TypeId) : ∃ g w', Blk w' g l t ∧ Nw w w' ∧ w.heap.size ≤ g ∧ g = w.heap.size ∧ w' = w.alloc (.cells l.toArray t) :=
 ⟨_, _, Blk.made w l t, (Nw.refl w).alloc _, Nat.le_refl _, rfl, rfl⟩
end Go.Proofs.YtcepdjlknalmnaaGreatDoor
namespace Go.Proofs.YtcepdjlknalmnaaGreatDoor
open Go.RowKit
set_option linter.unusedSimpArgs false
set_option linter.unusedVariables false
attribute [local go_sem ↓] Go.wp_at_zero Go.wp_at_succ
def ConOne (xs : List Con) : Prop := xs.length ≤ 1 ∧ ∀ c ∈ xs, ∃ a, c.adrs = [a] ∧ a.ttl.length ≤ 1 ∧ a.rng.length ≤ 1
set_option maxRecDepth 100000 in
theorem to_con (xs : List Con) (v : Value) (w : World) (h : tyCon.Sl w xs v) (hl : ConOne xs) : Calls Tryz.prog 81 #[v] w fun e w' => ∃ p, e = .returned p ∧ Foot (fun W => tyPCon.Pt W xs p) w' (fun k => w.heap.size ≤ k) ∧ Nw w w' := by
 obtain ⟨hl, ho⟩ := hl
 obtain ⟨A, cc, rfl⟩ := Ty.Sl_form h
 match xs, hl with
 | [], _ =>
  clear ho
  go_enter Tryz.func81, Tryz.ntmps81
  go_wp2
  go_ret
  exact ⟨_, rfl, foot_any (fun W => .inl ⟨rfl, rfl⟩), by (repeat (first | (with_reducible assumption) | (with_reducible exact Nw.refl _) | (with_reducible refine Nw.drew ?_) | (with_reducible refine Nw.drewN ?_ _) | (with_reducible refine Nw.alloc ?_ _)))⟩
 | [c], _ =>
  obtain ⟨a, ea, t1, t2⟩ := ho c List.mem_cons_self
  obtain ⟨b, o, rfl, ha⟩ := Ty.Sl_at h 0 (by simp)
  obtain ⟨cs, ⟨v1, rfl, w1f, w2f, hs⟩, hx⟩ := ha 0 c rfl
  rw [ea] at hs
  obtain ⟨A2, cd, rfl⟩ := Ty.Sl_form hs
  obtain ⟨b2, o2, rfl, ha2⟩ := Ty.Sl_at hs 0 (by simp)
  obtain ⟨cs, ⟨s1, s2, rfl, w3f, hs1, hs2⟩, hx2⟩ := ha2 0 a rfl
  have c0 := hx 0 _ rfl
  have c1 := hx 1 _ rfl
  have c2 := hx 2 _ rfl
  have d0 := hx2 0 _ rfl
  have d1 := hx2 1 _ rfl
  have d2 := hx2 2 _ rfl
  simp only [tyCon, tyAdr, Nat.zero_mul, Nat.add_zero, List.length_cons, List.length_nil, Nat.zero_add] at c0 c1 c2 d0 d1 d2
  clear hx hx2 ha ha2 ho
  obtain ⟨S1, m1, rfl⟩ := Ty.Sl_form hs1
  obtain ⟨S2, m2, rfl⟩ := Ty.Sl_form hs2
  obtain ⟨l1, hl1⟩ : ∃ l : Nat, l = a.ttl.length := ⟨_, rfl⟩
  obtain ⟨l2, hl2⟩ : ∃ l : Nat, l = a.rng.length := ⟨_, rfl⟩
  rw [← hl1] at d1 hs1
  rw [← hl2] at d2 hs2
  have T1 := Lib.hid t1
  have T2 := Lib.hid t2
  clear t1 t2 hl1 hl2
  go_enter Tryz.func81, Tryz.ntmps81
  go_upto_region 3 with fail
  refine wp_region_Z 10 (fun w' => w'.cell? ⟨b, o, none⟩ = some (.string c.net) ∧ w'.cell? ⟨b, o + 1, none⟩ = some (.string c.addr)) (by kernel_rfl) ⟨c0, c1⟩ (fun hHeld => ?_)
  obtain ⟨z0, hz0⟩ : ∃ z, z = w.drew := ⟨_, rfl⟩
  have q0 : Nw w z0 := by rw [hz0]; exact (Nw.refl w).drew
  rw [← hz0] at hHeld ⊢
  clear hz0
  refine' tkA 0 [10] hHeld ?_
  refine' tkA 1 [10] hHeld ?_
  refine' tkA 2 [10] hHeld ?_
  refine' tkA 3 [10] hHeld ?_
  refine' tkA 4 [10] hHeld ?_
  refine' tkA 5 [10] hHeld ?_
  refine' tkA 6 [10] hHeld ?_
  refine' tkA 7 [10] hHeld ?_
  refine' tkA 8 [10] hHeld ?_
  try simp only [Act.put, List.setIfInBounds_toArray, List.set_cons_zero, List.set_cons_succ]
  refine' stZ1 9 (by kernel_rfl) rfl (by decide) (fun K hK => ?_)
  go_simp
  obtain ⟨g1, z1, hG, hs9, hge, e1, e2⟩ := new_blk z0 [.string c.net, .string c.addr, .pointer none] 215
  rw [← e1, ← e2]
  clear e1 e2
  have q1 := q0.trans hs9
  refine hK.out _ _ ?_ (fun hHeld => ?_)
  · exact ⟨q1.cell c0, q1.cell c1⟩
  clear hK K
  try simp only [Act.put, List.setIfInBounds_toArray, List.set_cons_zero, List.set_cons_succ]
  refine' stZ_last (by kernel_rfl) rfl (by kernel_rfl) (fun K hK => ?_)
  go_simp
  refine hK.out _ _ ?_
  clear hK K
  have c2' := q1.cell c2
  go_upto_region 6 with fail
  refine wp_region_Z 19 (fun w' => w'.cell? ⟨b2, o2, none⟩ = some (.string a.addr) ∧ w'.cell? ⟨b2, o2 + 1, none⟩ = some (.slice S1 l1 m1) ∧ w'.cell? ⟨b2, o2 + 2, none⟩ = some (.slice S2 l2 m2)) (by kernel_rfl) ⟨q1.cell d0, q1.cell d1, q1.cell d2⟩ (fun hHeld => ?_)
  obtain ⟨z2, hz2⟩ : ∃ z, z = z1.drew := ⟨_, rfl⟩
  have r2 : Nw z1 z2 := by rw [hz2]; exact (Nw.refl z1).drew
  rw [← hz2] at hHeld ⊢
  clear hz2
  have q2 := q1.trans r2
  refine' tkA 0 [19] hHeld ?_
  refine' tkA 1 [19] hHeld ?_
  refine' tkA 2 [19] hHeld ?_
  refine' tkA 3 [19] hHeld ?_
  refine' tkA 4 [19] hHeld ?_
  refine' tkA 5 [19] hHeld ?_
  refine' tkA 6 [19] hHeld ?_
  refine' tkA 7 [19] hHeld ?_
  refine' tkA 8 [19] hHeld ?_
  refine' tkA 10 [19] hHeld ?_
  refine' tkA 11 [19] hHeld ?_
  refine' tkA 12 [19] hHeld ?_
  refine' tkA 13 [19] hHeld ?_
  try simp only [Act.put, List.setIfInBounds_toArray, List.set_cons_zero, List.set_cons_succ]
  refine' stZ1 9 (by kernel_rfl) rfl (by decide) (fun K hK => ?_)
  (go_simp; go_at_call 125; (with_reducible refine (to_num a.ttl _ _ (Ty.Sl_loc (Nw.block (w := w) q2) hs1) T1.out).mono ?_); rintro r z3 ⟨p1, rfl, hF1, hn3⟩)
  obtain ⟨P1, rfl⟩ := Ty.Pt_form hF1.now
  have q3 := q2.trans hn3
  refine hK.out _ _ ?_ (fun hHeld => ?_)
  · exact ⟨q3.cell d0, q3.cell d1, q3.cell d2⟩
  clear hK K
  try simp only [Act.put, List.setIfInBounds_toArray, List.set_cons_zero, List.set_cons_succ]
  refine' stZ1 14 (by kernel_rfl) rfl (by decide) (fun K hK => ?_)
  (go_simp; go_at_call 125; (with_reducible refine (to_num a.rng _ _ (Ty.Sl_loc (Nw.block (w := w) q3) hs2) T2.out).mono ?_); rintro r z4 ⟨p2, rfl, hF2, hn4⟩)
  obtain ⟨P2, rfl⟩ := Ty.Pt_form hF2.now
  have q4 := q3.trans hn4
  refine hK.out _ _ ?_ (fun hHeld => ?_)
  · exact ⟨q4.cell d0, q4.cell d1, q4.cell d2⟩
  clear hK K
  refine' tkA 15 [19] hHeld ?_
  try simp only [Act.put, List.setIfInBounds_toArray, List.set_cons_zero, List.set_cons_succ]
  refine' stZ1 16 (by kernel_rfl) rfl (by decide) (fun K hK => ?_)
  go_simp
  obtain ⟨g2, z5, hG2, hs5, hge2, e1, e2⟩ := new_blk z4 [.string a.addr, .pointer P1, .pointer P2] 217
  rw [← e1, ← e2]
  clear e1 e2
  have q5 := q4.trans hs5
  refine hK.out _ _ ?_ (fun hHeld => ?_)
  · exact ⟨q5.cell d0, q5.cell d1, q5.cell d2⟩
  clear hK K
  refine' tkA 17 [18, 19] hHeld ?_
  refine' tkA 18 [19] hHeld ?_
  try simp only [Act.put, List.setIfInBounds_toArray, List.set_cons_zero, List.set_cons_succ]
  have r5 := ((r2.trans hn3).trans hn4).trans hs5
  have hG5 := hG.nw r5
  have k2 := hG5.cell 2 rfl
  have f2 := hG5.fz 2
  refine' stZ_last (by kernel_rfl) rfl (by kernel_rfl) (fun K hK => ?_)
  go_simp
  refine hK.out _ _ ?_
  clear hK K
  go_wp2
  go_ret
  have hg1w : w.heap.size ≤ g1 := Nat.le_trans q0.size hge
  have hlt1 := Blk.lt hG
  have s2 := r2.size
  have s3 := hn3.size
  have s4 := hn4.size
  have f5 : Fr (fun k => k = g1) z5 (z5.setCell ⟨g1, 2, none⟩ (.pointer (some ⟨g2, 0, none⟩))) := (Fr.refl (fun k => k = g1) z5).setCell (.inl rfl) _
  have F1 := hF1.fr ((((hn4.trans hs5).fr (fun k => k = g1)).trans (f5.mono (fun k _ e => .inl e)))) (fun k hk hok e => by omega)
  have F2 := hF2.fr (((hs5.fr (fun k => k = g1)).trans (f5.mono (fun k _ e => .inl e)))) (fun k hk hok e => by omega)
  have hGf := hG5.set 2 (.pointer (some ⟨g2, 0, none⟩))
  have hG2f := hG2.fr f5 (fun e => by omega)
  have lt1 := Blk.lt hGf
  have lt2 := Blk.lt hG2f
  have s1 := q1.size
  exact ⟨_, rfl, fun W hW => .inr ⟨c, g1, rfl, rfl, Ty.At_blk ⟨_, rfl, w1f, w2f, by rw [ea]; exact .inr ⟨a, g2, rfl, rfl, Ty.At_blk ⟨_, _, rfl, w3f, F1 W (fun k hk hlt => hW k (by have := hk.1; omega) hlt), F2 W (fun k hk hlt => hW k (by have := hk.1; omega) hlt)⟩ ((hW g2 (by omega) lt2).trans hG2f)⟩⟩ ((hW g1 hg1w lt1).trans hGf)⟩, q5.frIn f5 (fun k e => by rw [e]; exact hg1w)⟩
end Go.Proofs.YtcepdjlknalmnaaGreatDoor

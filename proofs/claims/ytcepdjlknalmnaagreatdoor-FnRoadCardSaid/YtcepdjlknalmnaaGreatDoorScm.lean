/- The thin package's medium, to the package. Written by a small program of this claim's own (genscm). -/
import Derived.Test.YtcepdjlknalmnaaGreatDoorSegs
import Derived.Test.YtcepdjlknalmnaaGreatDoorZst
import Derived.Test.YtcepdjlknalmnaaGreatDoorImc
set_option linter.unusedSimpArgs false
set_option linter.unusedVariables false
namespace Go.Proofs.YtcepdjlknalmnaaGreatDoor
open Tryz
open Go.RowKit
attribute [local go_sem ↓] Go.wp_at_zero Go.wp_at_succ
theorem qF4 {w : World} {P : World -> Prop} {l : List Value} {t : TypeId} (h : ∀ W, Blk W w.heap.size l t -> P W) : qAq P (w.alloc (.cells l.toArray t)) (fun k => w.heap.size <= k) := fun W hW =>
 h W ((hW _ (Nat.le_refl _) (Blk.lt (Blk.made w l t))).trans (Blk.made w l t))
theorem qFc {w : World} {P : World -> Prop} {ok : Nat -> Prop} (h : ∀ W, P W) : qAq P w ok := fun W _ => h W
set_option maxRecDepth 100000 in
theorem qQ0 (xs : List ByteArray) (v : Value) (w : World) (h : qAd.Sl w xs v) (hl : xs.length <= 1) : Calls prog 77 #[v] w fun e w' => ∃ p, e = .returned p /\ qAq (fun W => qAd.Pt W xs p) w' (fun k => w.heap.size <= k) /\ Nw w w' := by
 obtain ⟨A, c, rfl⟩ := Ty.Sl_form h
 match xs, hl with
 | [], _ =>
  go_enter func77, ntmps77
  go_wp2
  go_ret
  exact ⟨_, rfl, qFc (fun W => .inl ⟨rfl, rfl⟩), by (apply_rules [Nw.refl, Nw.drew, Nw.drewN, Nw.alloc])⟩
 | [y], _ =>
  obtain ⟨b, o, rfl, ha⟩ := Ty.Sl_at h 0 (by simp)
  obtain ⟨cs, ⟨rfl, hwf⟩, hx⟩ := ha 0 y rfl
  have c0 := hx 0 _ rfl
  simp only [qAd, qCn, Ty.flat, Nat.mul_one, Nat.zero_mul, Nat.mul_zero, Nat.add_zero, Nat.zero_add] at c0
  go_enter func77, ntmps77
  go_wp2
  go_ret
  exact ⟨_, rfl, qF4 (l := [.string y]) (t := 162) (fun W hB => .inr ⟨y, _, rfl, rfl, Ty.At_blk ⟨rfl, hwf⟩ hB⟩), (Nw.refl w).alloc _⟩
set_option maxRecDepth 100000 in
theorem to_mail (xs : List ByteArray) (v : Value) (w : World) (h : qAd.Sl w xs v) (hl : xs.length <= 1) : Calls prog 79 #[v] w fun e w' => ∃ p, e = .returned p /\ qAq (fun W => qAd.Pt W xs p) w' (fun k => w.heap.size <= k) /\ Nw w w' := by
 obtain ⟨A, c, rfl⟩ := Ty.Sl_form h
 match xs, hl with
 | [], _ =>
  go_enter func79, ntmps79
  go_wp2
  go_ret
  exact ⟨_, rfl, qFc (fun W => .inl ⟨rfl, rfl⟩), by (apply_rules [Nw.refl, Nw.drew, Nw.drewN, Nw.alloc])⟩
 | [y], _ =>
  obtain ⟨b, o, rfl, ha⟩ := Ty.Sl_at h 0 (by simp)
  obtain ⟨cs, ⟨rfl, hwf⟩, hx⟩ := ha 0 y rfl
  have c0 := hx 0 _ rfl
  simp only [qAd, qCn, Ty.flat, Nat.mul_one, Nat.zero_mul, Nat.mul_zero, Nat.add_zero, Nat.zero_add] at c0
  go_enter func79, ntmps79
  go_wp2
  go_ret
  exact ⟨_, rfl, qF4 (l := [.string y]) (t := 165) (fun W hB => .inr ⟨y, _, rfl, rfl, Ty.At_blk ⟨rfl, hwf⟩ hB⟩), (Nw.refl w).alloc _⟩
set_option maxRecDepth 100000 in
theorem to_phone (xs : List ByteArray) (v : Value) (w : World) (h : qAd.Sl w xs v) (hl : xs.length <= 1) : Calls prog 80 #[v] w fun e w' => ∃ p, e = .returned p /\ qAq (fun W => qAd.Pt W xs p) w' (fun k => w.heap.size <= k) /\ Nw w w' := by
 obtain ⟨A, c, rfl⟩ := Ty.Sl_form h
 match xs, hl with
 | [], _ =>
  go_enter func80, ntmps80
  go_wp2
  go_ret
  exact ⟨_, rfl, qFc (fun W => .inl ⟨rfl, rfl⟩), by (apply_rules [Nw.refl, Nw.drew, Nw.drewN, Nw.alloc])⟩
 | [y], _ =>
  obtain ⟨b, o, rfl, ha⟩ := Ty.Sl_at h 0 (by simp)
  obtain ⟨cs, ⟨rfl, hwf⟩, hx⟩ := ha 0 y rfl
  have c0 := hx 0 _ rfl
  simp only [qAd, qCn, Ty.flat, Nat.mul_one, Nat.zero_mul, Nat.mul_zero, Nat.add_zero, Nat.zero_add] at c0
  go_enter func80, ntmps80
  go_wp2
  go_ret
  exact ⟨_, rfl, qF4 (l := [.string y]) (t := 167) (fun W hB => .inr ⟨y, _, rfl, rfl, Ty.At_blk ⟨rfl, hwf⟩ hB⟩), (Nw.refl w).alloc _⟩
set_option maxRecDepth 100000 in
theorem to_key (xs : List ByteArray) (v : Value) (w : World) (h : qAd.Sl w xs v) (hl : xs.length <= 1) : Calls prog 83 #[v] w fun e w' => ∃ p, e = .returned p /\ qAq (fun W => qAd.Pt W xs p) w' (fun k => w.heap.size <= k) /\ Nw w w' := by
 obtain ⟨A, c, rfl⟩ := Ty.Sl_form h
 match xs, hl with
 | [], _ =>
  go_enter func83, ntmps83
  go_wp2
  go_ret
  exact ⟨_, rfl, qFc (fun W => .inl ⟨rfl, rfl⟩), by (apply_rules [Nw.refl, Nw.drew, Nw.drewN, Nw.alloc])⟩
 | [y], _ =>
  obtain ⟨b, o, rfl, ha⟩ := Ty.Sl_at h 0 (by simp)
  obtain ⟨cs, ⟨rfl, hwf⟩, hx⟩ := ha 0 y rfl
  have c0 := hx 0 _ rfl
  simp only [qAd, qCn, Ty.flat, Nat.mul_one, Nat.zero_mul, Nat.mul_zero, Nat.add_zero, Nat.zero_add] at c0
  go_enter func83, ntmps83
  go_wp2
  go_ret
  exact ⟨_, rfl, qF4 (l := [.string y]) (t := 171) (fun W hB => .inr ⟨y, _, rfl, rfl, Ty.At_blk ⟨rfl, hwf⟩ hB⟩), (Nw.refl w).alloc _⟩
set_option maxRecDepth 100000 in
theorem to_url (xs : List ByteArray) (v : Value) (w : World) (h : qAd.Sl w xs v) (hl : xs.length <= 1) : Calls prog 78 #[v] w fun e w' => ∃ p, e = .returned p /\ qAq (fun W => qAd.Pt W xs p) w' (fun k => w.heap.size <= k) /\ Nw w w' := by
 obtain ⟨A, c, rfl⟩ := Ty.Sl_form h
 match xs, hl with
 | [], _ =>
  go_enter func78, ntmps78
  go_wp2
  go_ret
  exact ⟨_, rfl, qFc (fun W => .inl ⟨rfl, rfl⟩), by (apply_rules [Nw.refl, Nw.drew, Nw.drewN, Nw.alloc])⟩
 | [y], _ =>
  obtain ⟨b, o, rfl, ha⟩ := Ty.Sl_at h 0 (by simp)
  obtain ⟨cs, ⟨rfl, hwf⟩, hx⟩ := ha 0 y rfl
  have c0 := hx 0 _ rfl
  simp only [qAd, qCn, Ty.flat, Nat.mul_one, Nat.zero_mul, Nat.mul_zero, Nat.add_zero, Nat.zero_add] at c0
  go_enter func78, ntmps78
  go_wp2
  go_ret
  exact ⟨_, rfl, qF4 (l := [.string y]) (t := 212) (fun W hB => .inr ⟨y, _, rfl, rfl, Ty.At_blk ⟨rfl, hwf⟩ hB⟩), (Nw.refl w).alloc _⟩
set_option maxRecDepth 100000 in
theorem qQ1 (xs : List Int) (v : Value) (w : World) (h : tyI.Sl w xs v) (hl : xs.length <= 1) : Calls prog 125 #[v] w fun e w' => ∃ p, e = .returned p /\ qAq (fun W => tyI.Pt W xs p) w' (fun k => w.heap.size <= k) /\ Nw w w' := by
 obtain ⟨A, c, rfl⟩ := Ty.Sl_form h
 match xs, hl with
 | [], _ =>
  go_enter func125, ntmps125
  go_wp2
  go_ret
  exact ⟨_, rfl, qFc (fun W => .inl ⟨rfl, rfl⟩), by (apply_rules [Nw.refl, Nw.drew, Nw.drewN, Nw.alloc])⟩
 | [y], _ =>
  obtain ⟨b, o, rfl, ha⟩ := Ty.Sl_at h 0 (by simp)
  obtain ⟨cs, ⟨rfl, hwf⟩, hx⟩ := ha 0 y rfl
  have c0 := hx 0 _ rfl
  simp only [tyI, qCn, Ty.flat, Nat.mul_one, Nat.zero_mul, Nat.mul_zero, Nat.add_zero, Nat.zero_add] at c0
  go_enter func125, ntmps125
  go_wp2
  go_ret
  exact ⟨_, rfl, qF4 (l := [.int .i64 y]) (t := 3) (fun W hB => .inr ⟨y, _, rfl, rfl, Ty.At_blk ⟨rfl, hwf⟩ hB⟩), (Nw.refl w).alloc _⟩
theorem infS199 : (prog.info? 199).map (fun i => (i.zero, i.size, i.bytes)) = some (some (.agg #[.string ⟨#[]⟩, .string ⟨#[]⟩]), 2, 32) := by kernel_rfl
theorem infS198 : (prog.info? 198).map (fun i => (i.zero, i.size, i.bytes)) = some (some (.agg #[.bool false, .string ⟨#[]⟩, .int .u64 0]), 3, 32) := by kernel_rfl
set_option maxRecDepth 100000 in
theorem to_att (xs : List Att) (v : Value) (w : World) (h : qBy.Sl w xs v) (hl : xs.length <= 2147483647) :
 Calls prog 84 #[v] w fun e w' => ∃ v', e = .returned v' /\ qAq (fun W => qBy.Sl W xs v') w' (fun k => w.heap.size <= k) /\ Nw w w' := by
 obtain ⟨A, c, rfl⟩ := Ty.Sl_form h
 go_enter func84, ntmps84
 go_wp2
 go_loopw [3, 8] (fun out i wr => ∃ k : Nat, k <= xs.length /\ i = .int .i64 k /\ qAo qBy wr w.heap.size 199 out (xs.take k) (fun _ => False) /\ Nw w wr) (fun out i _ => xs.length - (intOf i).toNat)
 case atStart => exact ⟨0, Nat.zero_le _, rfl, qAo.nil _ _ _ _ _, Nw.refl _⟩
 obtain ⟨k, hk, rfl, hrow, hnw⟩ := hrel
 by_cases hlt : k < xs.length
 · obtain ⟨b, o, rfl, ha⟩ := Ty.Sl_at h k hlt
   obtain ⟨cs, ⟨rfl, hwf⟩, hx⟩ := ha k _ (List.getElem?_eq_getElem hlt)
   have c0 := hnw.cell (hx 0 _ rfl)
   have c1 := hnw.cell (hx 1 _ rfl)
   simp only [qBy, Ty.flat, Nat.add_zero] at c0 c1
   have HT := Lib.hid (qAt hlt)
   have hlk : (xs.take k).length <= k := by simp; omega
   have HF : ∀ (W : World) (ok : Nat -> Prop), qAq (fun W => qBy.rel W xs[k] [.string xs[k].key, .string xs[k].val]) W ok := fun W ok => qAq.flat (fun _ => ⟨rfl, hwf⟩)
   clear hx ha
   go_wp2_with ((refine qAc rfl fun K hK => ?_; (with_reducible refine qCu (ops := #[]) (.tmp 12) (.tmp 18) 112 199 (.agg #[.string ⟨#[]⟩, .string ⟨#[]⟩]) 32 ?_ underlying112 infS199 ?_ ?_ u3 (xs.take k) xs[k] [.string xs[k].key, .string xs[k].val] ?_ ?_ ?_ ?_ (HF _ _) (hrow.nw ((Nw.refl _).alloc _)) (hnw.alloc _) ?_ ?_ ?_); (focus rfl); (focus rfl); (focus decide); (focus rfl); rotate_left 1; (focus rfl); (focus simp only [World.alloc, Array.size_push]); (focus omega); (focus omega); intro v1 w1 hr1 hn1 hf1 ho1; refine hK _ _ ?_))
   exact ⟨⟨k + 1, by omega, by go_num, by rw [HT.out]; exact hr1, hn1⟩, by simp [intOf]; omega⟩
 rw [List.take_of_length_le (by omega)] at hrow
 go_wp2
 go_ret
 exact ⟨_, rfl, (hrow.foot (by omega)).mono (fun k _ e => e.elim (fun e => e.elim) (fun e => e)), hnw⟩
set_option maxRecDepth 100000 in
theorem to_bw (xs : List Bwd) (v : Value) (w : World) (h : qBx.Sl w xs v) (hl : xs.length <= 2147483647) :
 Calls prog 82 #[v] w fun e w' => ∃ v', e = .returned v' /\ qAq (fun W => qBx.Sl W xs v') w' (fun k => w.heap.size <= k) /\ Nw w w' := by
 obtain ⟨A, c, rfl⟩ := Ty.Sl_form h
 go_enter func82, ntmps82
 go_wp2
 go_loopw [3, 8] (fun out i wr => ∃ k : Nat, k <= xs.length /\ i = .int .i64 k /\ qAo qBx wr w.heap.size 198 out (xs.take k) (fun _ => False) /\ Nw w wr) (fun out i _ => xs.length - (intOf i).toNat)
 case atStart => exact ⟨0, Nat.zero_le _, rfl, qAo.nil _ _ _ _ _, Nw.refl _⟩
 obtain ⟨k, hk, rfl, hrow, hnw⟩ := hrel
 by_cases hlt : k < xs.length
 · obtain ⟨b, o, rfl, ha⟩ := Ty.Sl_at h k hlt
   obtain ⟨cs, ⟨rfl, hwf⟩, hx⟩ := ha k _ (List.getElem?_eq_getElem hlt)
   have c0 := hnw.cell (hx 0 _ rfl)
   have c1 := hnw.cell (hx 1 _ rfl)
   have c2 := hnw.cell (hx 2 _ rfl)
   simp only [qBx, Ty.flat, Nat.add_zero] at c0 c1 c2
   have HT := Lib.hid (qAt hlt)
   have hlk : (xs.take k).length <= k := by simp; omega
   have HF : ∀ (W : World) (ok : Nat -> Prop), qAq (fun W => qBx.rel W xs[k] [.bool xs[k].x, .string xs[k].ty, .int .u64 xs[k].n]) W ok := fun W ok => qAq.flat (fun _ => ⟨rfl, hwf⟩)
   clear hx ha
   go_wp2_with ((refine qAc rfl fun K hK => ?_; (with_reducible refine qCu (ops := #[]) (.tmp 12) (.tmp 20) 108 198 (.agg #[.bool false, .string ⟨#[]⟩, .int .u64 0]) 32 ?_ underlying108 infS198 ?_ ?_ u3 (xs.take k) xs[k] [.bool xs[k].x, .string xs[k].ty, .int .u64 xs[k].n] ?_ ?_ ?_ ?_ (HF _ _) (hrow.nw ((Nw.refl _).alloc _)) (hnw.alloc _) ?_ ?_ ?_); (focus rfl); (focus rfl); (focus decide); (focus rfl); rotate_left 1; (focus rfl); (focus simp only [World.alloc, Array.size_push]); (focus omega); (focus omega); intro v1 w1 hr1 hn1 hf1 ho1; refine hK _ _ ?_))
   exact ⟨⟨k + 1, by omega, by go_num, by rw [HT.out]; exact hr1, hn1⟩, by simp [intOf]; omega⟩
 rw [List.take_of_length_le (by omega)] at hrow
 go_wp2
 go_ret
 exact ⟨_, rfl, (hrow.foot (by omega)).mono (fun k _ e => e.elim (fun e => e.elim) (fun e => e)), hnw⟩
end Go.Proofs.YtcepdjlknalmnaaGreatDoor
namespace Go.Proofs.YtcepdjlknalmnaaGreatDoor
open Tryz
open Go.RowKit
attribute [local go_sem ↓] Go.wp_at_zero Go.wp_at_succ
def qLf (xs : List Con) : Prop := xs.length <= 1 /\ ∀ c ∈ xs, ∃ a, c.adrs = [a] /\ a.ttl.length <= 1 /\ a.rng.length <= 1
set_option maxRecDepth 100000 in
theorem to_con (xs : List Con) (v : Value) (w : World) (h : qC0.Sl w xs v) (hl : qLf xs) : Calls prog 81 #[v] w fun e w' => ∃ p, e = .returned p /\ qAq (fun W => qGw.Pt W xs p) w' (fun k => w.heap.size <= k) /\ Nw w w' := by
 obtain ⟨hl, ho⟩ := hl
 obtain ⟨A, cc, rfl⟩ := Ty.Sl_form h
 match xs, hl with
 | [], _ =>
  clear ho
  go_enter func81, ntmps81
  go_wp2
  go_ret
  exact ⟨_, rfl, qFc (fun W => .inl ⟨rfl, rfl⟩), by (apply_rules [Nw.refl, Nw.drew, Nw.drewN, Nw.alloc])⟩
 | [c], _ =>
  obtain ⟨a, ea, t1, t2⟩ := ho c List.mem_cons_self
  obtain ⟨b, o, rfl, ha⟩ := Ty.Sl_at h 0 (by simp)
  obtain ⟨cs, ⟨v1, rfl, w1f, w2f, hs⟩, hx⟩ := ha 0 c rfl
  rw [ea] at hs
  obtain ⟨A2, cd, rfl⟩ := Ty.Sl_form hs
  obtain ⟨b2, o2, rfl, ha2⟩ := Ty.Sl_at hs 0 (by simp)
  obtain ⟨cs, ⟨s1, s2, rfl, w3f, hs1, hs2⟩, hx2⟩ := ha2 0 a rfl
  have c0 := hx 0 _ rfl
  have c1 := hx 1 _ rfl
  have c2 := hx 2 _ rfl
  have d0 := hx2 0 _ rfl
  have d1 := hx2 1 _ rfl
  have d2 := hx2 2 _ rfl
  simp only [qC0, qE2, Nat.zero_mul, Nat.add_zero, List.length_cons, List.length_nil, Nat.zero_add] at c0 c1 c2 d0 d1 d2
  clear hx hx2 ha ha2 ho
  obtain ⟨S1, m1, rfl⟩ := Ty.Sl_form hs1
  obtain ⟨S2, m2, rfl⟩ := Ty.Sl_form hs2
  obtain ⟨l1, hl1⟩ : ∃ l : Nat, l = a.ttl.length := ⟨_, rfl⟩
  obtain ⟨l2, hl2⟩ : ∃ l : Nat, l = a.rng.length := ⟨_, rfl⟩
  rw [<- hl1] at d1 hs1
  rw [<- hl2] at d2 hs2
  have T1 := Lib.hid t1
  have T2 := Lib.hid t2
  clear t1 t2 hl1 hl2
  go_enter func81, ntmps81
  go_upto_region 3 with fail
  refine qAv 10 (fun w' => w'.cell? ⟨b, o, none⟩ = some (.string c.net) /\ w'.cell? ⟨b, o + 1, none⟩ = some (.string c.addr)) (by kernel_rfl) ⟨c0, c1⟩ (fun hHeld => ?_)
  obtain ⟨z0, hz0⟩ : ∃ z, z = w.drew := ⟨_, rfl⟩
  have q0 : Nw w z0 := by rw [hz0]; exact (Nw.refl w).drew
  rw [<- hz0] at hHeld ⊢
  clear hz0
  refine' tkA 0 [10] hHeld ?_
  refine' tkA 1 [10] hHeld ?_
  refine' tkA 2 [10] hHeld ?_
  refine' tkA 3 [10] hHeld ?_
  refine' tkA 4 [10] hHeld ?_
  refine' tkA 5 [10] hHeld ?_
  refine' tkA 6 [10] hHeld ?_
  refine' tkA 7 [10] hHeld ?_
  refine' tkA 8 [10] hHeld ?_
  try simp only [sP]
  refine' qB9 9 (by kernel_rfl) rfl (by decide) (fun K hK => ?_)
  go_simp
  obtain ⟨g1, z1, hG, hs9, hge, e1, e2⟩ := qEm z0 [.string c.net, .string c.addr, .pointer none] 215
  rw [<- e1, <- e2]
  clear e1 e2
  have q1 := q0.trans hs9
  refine hK.out _ _ ?_ (fun hHeld => ?_)
  · exact ⟨q1.cell c0, q1.cell c1⟩
  clear hK K
  try simp only [sP]
  refine' qBr (by kernel_rfl) rfl (by kernel_rfl) (fun K hK => ?_)
  go_simp
  refine hK.out _ _ ?_
  clear hK K
  have c2' := q1.cell c2
  go_upto_region 6 with fail
  refine qAv 19 (fun w' => w'.cell? ⟨b2, o2, none⟩ = some (.string a.addr) /\ w'.cell? ⟨b2, o2 + 1, none⟩ = some (.slice S1 l1 m1) /\ w'.cell? ⟨b2, o2 + 2, none⟩ = some (.slice S2 l2 m2)) (by kernel_rfl) ⟨q1.cell d0, q1.cell d1, q1.cell d2⟩ (fun hHeld => ?_)
  obtain ⟨z2, hz2⟩ : ∃ z, z = z1.drew := ⟨_, rfl⟩
  have r2 : Nw z1 z2 := by rw [hz2]; exact (Nw.refl z1).drew
  rw [<- hz2] at hHeld ⊢
  clear hz2
  have q2 := q1.trans r2
  refine' tkA 0 [19] hHeld ?_
  refine' tkA 1 [19] hHeld ?_
  refine' tkA 2 [19] hHeld ?_
  refine' tkA 3 [19] hHeld ?_
  refine' tkA 4 [19] hHeld ?_
  refine' tkA 5 [19] hHeld ?_
  refine' tkA 6 [19] hHeld ?_
  refine' tkA 7 [19] hHeld ?_
  refine' tkA 8 [19] hHeld ?_
  refine' tkA 10 [19] hHeld ?_
  refine' tkA 11 [19] hHeld ?_
  refine' tkA 12 [19] hHeld ?_
  refine' tkA 13 [19] hHeld ?_
  try simp only [sP]
  refine' qB9 9 (by kernel_rfl) rfl (by decide) (fun K hK => ?_)
  (go_simp; go_at_call 125; (with_reducible refine (qQ1 a.ttl _ _ (Ty.Sl_loc (Nw.block (w := w) q2) hs1) T1.out).mono ?_); rintro r z3 ⟨p1, rfl, hF1, hn3⟩)
  obtain ⟨P1, rfl⟩ := Ty.Pt_form hF1.now
  have q3 := q2.trans hn3
  refine hK.out _ _ ?_ (fun hHeld => ?_)
  · exact ⟨q3.cell d0, q3.cell d1, q3.cell d2⟩
  clear hK K
  try simp only [sP]
  refine' qB9 14 (by kernel_rfl) rfl (by decide) (fun K hK => ?_)
  (go_simp; go_at_call 125; (with_reducible refine (qQ1 a.rng _ _ (Ty.Sl_loc (Nw.block (w := w) q3) hs2) T2.out).mono ?_); rintro r z4 ⟨p2, rfl, hF2, hn4⟩)
  obtain ⟨P2, rfl⟩ := Ty.Pt_form hF2.now
  have q4 := q3.trans hn4
  refine hK.out _ _ ?_ (fun hHeld => ?_)
  · exact ⟨q4.cell d0, q4.cell d1, q4.cell d2⟩
  clear hK K
  refine' tkA 15 [19] hHeld ?_
  try simp only [sP]
  refine' qB9 16 (by kernel_rfl) rfl (by decide) (fun K hK => ?_)
  go_simp
  obtain ⟨g2, z5, hG2, hs5, hge2, e1, e2⟩ := qEm z4 [.string a.addr, .pointer P1, .pointer P2] 217
  rw [<- e1, <- e2]
  clear e1 e2
  have q5 := q4.trans hs5
  refine hK.out _ _ ?_ (fun hHeld => ?_)
  · exact ⟨q5.cell d0, q5.cell d1, q5.cell d2⟩
  clear hK K
  refine' tkA 17 [18, 19] hHeld ?_
  refine' tkA 18 [19] hHeld ?_
  try simp only [sP]
  have r5 := ((r2.trans hn3).trans hn4).trans hs5
  have hG5 := hG.nw r5
  have k2 := hG5.cell 2 rfl
  have f2 := hG5.fz 2
  refine' qBr (by kernel_rfl) rfl (by kernel_rfl) (fun K hK => ?_)
  go_simp
  refine hK.out _ _ ?_
  clear hK K
  go_wp2
  go_ret
  have hg1w : w.heap.size <= g1 := Nat.le_trans q0.size hge
  have hlt1 := Blk.lt hG
  have s2 := r2.size
  have s3 := hn3.size
  have s4 := hn4.size
  have f5 : Fr (fun k => k = g1) z5 (z5.setCell ⟨g1, 2, none⟩ (.pointer (some ⟨g2, 0, none⟩))) := (Fr.refl (fun k => k = g1) z5).setCell (.inl rfl) _
  have F1 := hF1.fr ((((hn4.trans hs5).fr (fun k => k = g1)).trans (f5.mono (fun k _ e => .inl e)))) (fun k hk hok e => by omega)
  have F2 := hF2.fr (((hs5.fr (fun k => k = g1)).trans (f5.mono (fun k _ e => .inl e)))) (fun k hk hok e => by omega)
  have hGf := hG5.set 2 (.pointer (some ⟨g2, 0, none⟩))
  have hG2f := hG2.fr f5 (fun e => by omega)
  have lt1 := Blk.lt hGf
  have lt2 := Blk.lt hG2f
  have s1 := q1.size
  exact ⟨_, rfl, fun W hW => .inr ⟨c, g1, rfl, rfl, Ty.At_blk ⟨_, rfl, w1f, w2f, by rw [ea]; exact .inr ⟨a, g2, rfl, rfl, Ty.At_blk ⟨_, _, rfl, w3f, F1 W (fun k hk hlt => hW k (by have := hk.1; omega) hlt), F2 W (fun k hk hlt => hW k (by have := hk.1; omega) hlt)⟩ ((hW g2 (by omega) lt2).trans hG2f)⟩⟩ ((hW g1 hg1w lt1).trans hGf)⟩, q5.frIn f5 (fun k e => by rw [e]; exact hg1w)⟩
end Go.Proofs.YtcepdjlknalmnaaGreatDoor
namespace Go.Proofs.YtcepdjlknalmnaaGreatDoor
open Tryz
open Go.RowKit
attribute [local go_sem ↓] Go.wp_at_zero Go.wp_at_succ
structure MedTo (x : Med) : Prop where
 ports : x.ports.length <= 1
 title : x.title.length <= 1
 key : x.key.length <= 1
 conn : qLf x.conn
 protos : x.protos.length <= 2147483647
 fmts : x.fmts.length <= 2147483647
 bws : x.bws.length <= 2147483647
 atts : x.atts.length <= 2147483647
set_option maxRecDepth 100000 in
set_option maxHeartbeats 1000000 in
theorem to_med (x : Med) (v0 v1 v2 v3 v4 v5 v6 v7 : Value) (w : World) (m : MedAt w x v0 v1 v2 v3 v4 v5 v6 v7) (ho : MedTo x) :
 Calls prog 85 #[.agg #[.string x.name, .int .i64 x.port, v0, v1, v2, v3, v4, v5, v6, v7]] w fun e w' => ∃ g, e = .returned (.pointer (some ⟨g, 0, none⟩)) /\ qAq (fun W => qEs.At W [x] g 0) w' (fun k => w.heap.size <= k) /\ Nw w w' := by
 obtain ⟨A0, n0, rfl⟩ := Ty.Sl_form m.ports
 obtain ⟨A1, n1, rfl⟩ := Ty.Sl_form m.protos
 obtain ⟨A2, n2, rfl⟩ := Ty.Sl_form m.fmts
 obtain ⟨A3, n3, rfl⟩ := Ty.Sl_form m.title
 obtain ⟨A4, n4, rfl⟩ := Ty.Sl_form m.conn
 obtain ⟨A5, n5, rfl⟩ := Ty.Sl_form m.bws
 obtain ⟨A6, n6, rfl⟩ := Ty.Sl_form m.key
 obtain ⟨A7, n7, rfl⟩ := Ty.Sl_form m.atts
 have M := Lib.hid m
 have HO := Lib.hid ho
 clear m ho
 obtain ⟨gb, hgb⟩ : ∃ g, g = w.heap.size := ⟨_, rfl⟩
 obtain ⟨w0, hw0⟩ : ∃ w0, w0 = w.alloc (.cells #[.string x.name, .int .i64 x.port, .slice A0 x.ports.length n0, .slice A1 x.protos.length n1, .slice A2 x.fmts.length n2, .slice A3 x.title.length n3, .slice A4 x.conn.length n4, .slice A5 x.bws.length n5, .slice A6 x.key.length n6, .slice A7 x.atts.length n7] 84) := ⟨_, rfl⟩
 have q0 : Nw w w0 := by rw [hw0]; exact (Nw.refl w).alloc _
 have H0 : Blk w0 gb [.string x.name, .int .i64 x.port, .slice A0 x.ports.length n0, .slice A1 x.protos.length n1, .slice A2 x.fmts.length n2, .slice A3 x.title.length n3, .slice A4 x.conn.length n4, .slice A5 x.bws.length n5, .slice A6 x.key.length n6, .slice A7 x.atts.length n7] 84 := by rw [hw0, hgb]; exact Blk.made w _ 84
 go_enter func85, ntmps85
 go_upto_region 1 with fail
 rw [<- hw0, <- hgb]
 clear hw0 hgb
 refine qAv 32 (fun w' => w'.cell? ⟨gb, 0, none⟩ = some (.string x.name) /\ w'.cell? ⟨gb, 1, none⟩ = some (.int .i64 x.port) /\ w'.cell? ⟨gb, 2, none⟩ = some (.slice A0 x.ports.length n0) /\ w'.cell? ⟨gb, 3, none⟩ = some (.slice A1 x.protos.length n1) /\ w'.cell? ⟨gb, 4, none⟩ = some (.slice A2 x.fmts.length n2) /\ w'.cell? ⟨gb, 5, none⟩ = some (.slice A3 x.title.length n3) /\ w'.cell? ⟨gb, 6, none⟩ = some (.slice A4 x.conn.length n4) /\ w'.cell? ⟨gb, 7, none⟩ = some (.slice A5 x.bws.length n5) /\ w'.cell? ⟨gb, 8, none⟩ = some (.slice A6 x.key.length n6) /\ w'.cell? ⟨gb, 9, none⟩ = some (.slice A7 x.atts.length n7)) (by kernel_rfl) ⟨H0.cell 0 rfl, H0.cell 1 rfl, H0.cell 2 rfl, H0.cell 3 rfl, H0.cell 4 rfl, H0.cell 5 rfl, H0.cell 6 rfl, H0.cell 7 rfl, H0.cell 8 rfl, H0.cell 9 rfl⟩ (fun hHeld => ?_)
 obtain ⟨z0, hz0⟩ : ∃ z, z = w0.drew := ⟨_, rfl⟩
 have r0 : Nw w0 z0 := by rw [hz0]; exact (Nw.refl w0).drew
 rw [<- hz0] at hHeld ⊢
 clear hz0
 have p0 := q0.trans r0
 refine' tkA 0 [32] hHeld ?_
 refine' tkA 1 [32] hHeld ?_
 refine' tkA 2 [32] hHeld ?_
 refine' tkA 3 [32] hHeld ?_
 refine' tkA 4 [32] hHeld ?_
 refine' tkA 5 [32] hHeld ?_
 refine' tkA 8 [32] hHeld ?_
 refine' tkA 9 [32] hHeld ?_
 refine' tkA 11 [32] hHeld ?_
 refine' tkA 12 [32] hHeld ?_
 refine' tkA 15 [32] hHeld ?_
 refine' tkA 16 [32] hHeld ?_
 refine' tkA 18 [32] hHeld ?_
 refine' tkA 19 [32] hHeld ?_
 refine' tkA 21 [32] hHeld ?_
 refine' tkA 22 [32] hHeld ?_
 refine' tkA 24 [32] hHeld ?_
 refine' tkA 25 [32] hHeld ?_
 refine' tkA 27 [32] hHeld ?_
 refine' tkA 28 [32] hHeld ?_
 try simp only [sP]
 refine' qB9 6 (by kernel_rfl) rfl (by decide) (fun K hK => ?_)
 (go_simp; go_at_call 125; (with_reducible refine (qQ1 x.ports _ _ (Ty.Sl_loc (Nw.block (w := w) p0) M.out.ports) HO.out.ports).mono ?_); rintro r z1 ⟨p1, rfl, hF1, hn1⟩)
 obtain ⟨E1, rfl⟩ := Ty.Pt_form hF1.now
 have r1 := r0.trans hn1
 have p1 := p0.trans hn1
 have s1 := hn1.size
 refine hK.out _ _ ?_ (fun hHeld => ?_)
 · exact ⟨(H0.nw r1).cell 0 rfl, (H0.nw r1).cell 1 rfl, (H0.nw r1).cell 2 rfl, (H0.nw r1).cell 3 rfl, (H0.nw r1).cell 4 rfl, (H0.nw r1).cell 5 rfl, (H0.nw r1).cell 6 rfl, (H0.nw r1).cell 7 rfl, (H0.nw r1).cell 8 rfl, (H0.nw r1).cell 9 rfl⟩
 clear hK K
 refine' tkA 7 [32] hHeld ?_
 try simp only [sP]
 refine' qB9 10 (by kernel_rfl) rfl (by decide) (fun K hK => ?_)
 (go_simp; go_at_call 124; (with_reducible refine (qF1 x.protos _ _ (Ty.Sl_loc (Nw.block (w := w) p1) M.out.protos) HO.out.protos).mono ?_); rintro r z2 ⟨p2, rfl, hF2, hn2⟩)
 obtain ⟨E2, e2, rfl⟩ := Ty.Sl_form hF2.now
 have r2 := r1.trans hn2
 have p2 := p1.trans hn2
 have s2 := hn2.size
 refine hK.out _ _ ?_ (fun hHeld => ?_)
 · exact ⟨(H0.nw r2).cell 0 rfl, (H0.nw r2).cell 1 rfl, (H0.nw r2).cell 2 rfl, (H0.nw r2).cell 3 rfl, (H0.nw r2).cell 4 rfl, (H0.nw r2).cell 5 rfl, (H0.nw r2).cell 6 rfl, (H0.nw r2).cell 7 rfl, (H0.nw r2).cell 8 rfl, (H0.nw r2).cell 9 rfl⟩
 clear hK K
 try simp only [sP]
 refine' qB9 13 (by kernel_rfl) rfl (by decide) (fun K hK => ?_)
 (go_simp; go_at_call 124; (with_reducible refine (qF1 x.fmts _ _ (Ty.Sl_loc (Nw.block (w := w) p2) M.out.fmts) HO.out.fmts).mono ?_); rintro r z3 ⟨p3, rfl, hF3, hn3⟩)
 obtain ⟨E3, e3, rfl⟩ := Ty.Sl_form hF3.now
 have r3 := r2.trans hn3
 have p3 := p2.trans hn3
 have s3 := hn3.size
 refine hK.out _ _ ?_ (fun hHeld => ?_)
 · exact ⟨(H0.nw r3).cell 0 rfl, (H0.nw r3).cell 1 rfl, (H0.nw r3).cell 2 rfl, (H0.nw r3).cell 3 rfl, (H0.nw r3).cell 4 rfl, (H0.nw r3).cell 5 rfl, (H0.nw r3).cell 6 rfl, (H0.nw r3).cell 7 rfl, (H0.nw r3).cell 8 rfl, (H0.nw r3).cell 9 rfl⟩
 clear hK K
 refine' tkA 14 [32] hHeld ?_
 try simp only [sP]
 refine' qB9 17 (by kernel_rfl) rfl (by decide) (fun K hK => ?_)
 (go_simp; go_at_call 77; (with_reducible refine (qQ0 x.title _ _ (Ty.Sl_loc (Nw.block (w := w) p3) M.out.title) HO.out.title).mono ?_); rintro r z4 ⟨p4, rfl, hF4, hn4⟩)
 obtain ⟨E4, rfl⟩ := Ty.Pt_form hF4.now
 have r4 := r3.trans hn4
 have p4 := p3.trans hn4
 have s4 := hn4.size
 refine hK.out _ _ ?_ (fun hHeld => ?_)
 · exact ⟨(H0.nw r4).cell 0 rfl, (H0.nw r4).cell 1 rfl, (H0.nw r4).cell 2 rfl, (H0.nw r4).cell 3 rfl, (H0.nw r4).cell 4 rfl, (H0.nw r4).cell 5 rfl, (H0.nw r4).cell 6 rfl, (H0.nw r4).cell 7 rfl, (H0.nw r4).cell 8 rfl, (H0.nw r4).cell 9 rfl⟩
 clear hK K
 try simp only [sP]
 refine' qB9 20 (by kernel_rfl) rfl (by decide) (fun K hK => ?_)
 (go_simp; go_at_call 81; (with_reducible refine (to_con x.conn _ _ (Ty.Sl_loc (Nw.block (w := w) p4) M.out.conn) HO.out.conn).mono ?_); rintro r z5 ⟨p5, rfl, hF5, hn5⟩)
 obtain ⟨E5, rfl⟩ := Ty.Pt_form hF5.now
 have r5 := r4.trans hn5
 have p5 := p4.trans hn5
 have s5 := hn5.size
 refine hK.out _ _ ?_ (fun hHeld => ?_)
 · exact ⟨(H0.nw r5).cell 0 rfl, (H0.nw r5).cell 1 rfl, (H0.nw r5).cell 2 rfl, (H0.nw r5).cell 3 rfl, (H0.nw r5).cell 4 rfl, (H0.nw r5).cell 5 rfl, (H0.nw r5).cell 6 rfl, (H0.nw r5).cell 7 rfl, (H0.nw r5).cell 8 rfl, (H0.nw r5).cell 9 rfl⟩
 clear hK K
 try simp only [sP]
 refine' qB9 23 (by kernel_rfl) rfl (by decide) (fun K hK => ?_)
 (go_simp; go_at_call 82; (with_reducible refine (to_bw x.bws _ _ (Ty.Sl_loc (Nw.block (w := w) p5) M.out.bws) HO.out.bws).mono ?_); rintro r z6 ⟨p6, rfl, hF6, hn6⟩)
 obtain ⟨E6, e6, rfl⟩ := Ty.Sl_form hF6.now
 have r6 := r5.trans hn6
 have p6 := p5.trans hn6
 have s6 := hn6.size
 refine hK.out _ _ ?_ (fun hHeld => ?_)
 · exact ⟨(H0.nw r6).cell 0 rfl, (H0.nw r6).cell 1 rfl, (H0.nw r6).cell 2 rfl, (H0.nw r6).cell 3 rfl, (H0.nw r6).cell 4 rfl, (H0.nw r6).cell 5 rfl, (H0.nw r6).cell 6 rfl, (H0.nw r6).cell 7 rfl, (H0.nw r6).cell 8 rfl, (H0.nw r6).cell 9 rfl⟩
 clear hK K
 try simp only [sP]
 refine' qB9 26 (by kernel_rfl) rfl (by decide) (fun K hK => ?_)
 (go_simp; go_at_call 83; (with_reducible refine (to_key x.key _ _ (Ty.Sl_loc (Nw.block (w := w) p6) M.out.key) HO.out.key).mono ?_); rintro r z7 ⟨p7, rfl, hF7, hn7⟩)
 obtain ⟨E7, rfl⟩ := Ty.Pt_form hF7.now
 have r7 := r6.trans hn7
 have p7 := p6.trans hn7
 have s7 := hn7.size
 refine hK.out _ _ ?_ (fun hHeld => ?_)
 · exact ⟨(H0.nw r7).cell 0 rfl, (H0.nw r7).cell 1 rfl, (H0.nw r7).cell 2 rfl, (H0.nw r7).cell 3 rfl, (H0.nw r7).cell 4 rfl, (H0.nw r7).cell 5 rfl, (H0.nw r7).cell 6 rfl, (H0.nw r7).cell 7 rfl, (H0.nw r7).cell 8 rfl, (H0.nw r7).cell 9 rfl⟩
 clear hK K
 try simp only [sP]
 refine' qB9 29 (by kernel_rfl) rfl (by decide) (fun K hK => ?_)
 (go_simp; go_at_call 84; (with_reducible refine (to_att x.atts _ _ (Ty.Sl_loc (Nw.block (w := w) p7) M.out.atts) HO.out.atts).mono ?_); rintro r z8 ⟨p8, rfl, hF8, hn8⟩)
 obtain ⟨E8, e8, rfl⟩ := Ty.Sl_form hF8.now
 have r8 := r7.trans hn8
 have p8 := p7.trans hn8
 have s8 := hn8.size
 refine hK.out _ _ ?_ (fun hHeld => ?_)
 · exact ⟨(H0.nw r8).cell 0 rfl, (H0.nw r8).cell 1 rfl, (H0.nw r8).cell 2 rfl, (H0.nw r8).cell 3 rfl, (H0.nw r8).cell 4 rfl, (H0.nw r8).cell 5 rfl, (H0.nw r8).cell 6 rfl, (H0.nw r8).cell 7 rfl, (H0.nw r8).cell 8 rfl, (H0.nw r8).cell 9 rfl⟩
 clear hK K
 refine' tkA 30 [32] hHeld ?_
 try simp only [sP]
 refine' qB9 31 (by kernel_rfl) rfl (by decide) (fun K hK => ?_)
 go_simp
 obtain ⟨g, z9, hG, hs9, hge, e1', e2'⟩ := qEm z8 [.string x.name, .int .i64 x.port, .pointer E1, .slice E2 x.protos.length e2, .slice E3 x.fmts.length e3, .pointer E4, .pointer E5, .slice E6 x.bws.length e6, .pointer E7, .slice E8 x.atts.length e8] 206
 rw [<- e1', <- e2']
 clear e1' e2'
 have r9 := r8.trans hs9
 have p9 := p8.trans hs9
 refine hK.out _ _ ?_ (fun hHeld => ?_)
 · exact ⟨(H0.nw r9).cell 0 rfl, (H0.nw r9).cell 1 rfl, (H0.nw r9).cell 2 rfl, (H0.nw r9).cell 3 rfl, (H0.nw r9).cell 4 rfl, (H0.nw r9).cell 5 rfl, (H0.nw r9).cell 6 rfl, (H0.nw r9).cell 7 rfl, (H0.nw r9).cell 8 rfl, (H0.nw r9).cell 9 rfl⟩
 clear hK K
 try simp only [sP]
 refine' qBr (by kernel_rfl) rfl (by kernel_rfl) (fun K hK => ?_)
 go_simp
 refine hK.out _ _ ?_
 clear hK K
 go_wp2
 go_ret
 have s0 := p0.size
 have F1 := hF1.fr (((((((((hn2.trans hn3).trans hn4).trans hn5).trans hn6).trans hn7).trans hn8).trans hs9)).fr (fun _ => False)) (fun k hk hok e => e)
 have F2 := hF2.fr ((((((((hn3.trans hn4).trans hn5).trans hn6).trans hn7).trans hn8).trans hs9)).fr (fun _ => False)) (fun k hk hok e => e)
 have F3 := hF3.fr (((((((hn4.trans hn5).trans hn6).trans hn7).trans hn8).trans hs9)).fr (fun _ => False)) (fun k hk hok e => e)
 have F4 := hF4.fr ((((((hn5.trans hn6).trans hn7).trans hn8).trans hs9)).fr (fun _ => False)) (fun k hk hok e => e)
 have F5 := hF5.fr (((((hn6.trans hn7).trans hn8).trans hs9)).fr (fun _ => False)) (fun k hk hok e => e)
 have F6 := hF6.fr ((((hn7.trans hn8).trans hs9)).fr (fun _ => False)) (fun k hk hok e => e)
 have F7 := hF7.fr (((hn8.trans hs9)).fr (fun _ => False)) (fun k hk hok e => e)
 have F8 := hF8.fr ((hs9).fr (fun _ => False)) (fun k hk hok e => e)
 have lt := Blk.lt hG
 exact ⟨g, rfl, fun W hW => Ty.At_blk ⟨_, _, _, _, _, _, _, _, rfl, ⟨M.out.name, M.out.port, F1 W (fun k hk hlt => hW k (by have := hk.1; omega) hlt), F2 W (fun k hk hlt => hW k (by have := hk.1; omega) hlt), F3 W (fun k hk hlt => hW k (by have := hk.1; omega) hlt), F4 W (fun k hk hlt => hW k (by have := hk.1; omega) hlt), F5 W (fun k hk hlt => hW k (by have := hk.1; omega) hlt), F6 W (fun k hk hlt => hW k (by have := hk.1; omega) hlt), F7 W (fun k hk hlt => hW k (by have := hk.1; omega) hlt), F8 W (fun k hk hlt => hW k (by have := hk.1; omega) hlt)⟩⟩ ((hW g (by omega) lt).trans hG), p9⟩
end Go.Proofs.YtcepdjlknalmnaaGreatDoor

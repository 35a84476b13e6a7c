/- Laws of this claim. -/
import Derived.Test.YtcepdjlknalmnaaGreatDoorTxtD
import Derived.Test.YtcepdjlknalmnaaGreatDoorSpecC
set_option linter.unusedSimpArgs false
set_option linter.unusedVariables false
namespace Go.Proofs.YtcepdjlknalmnaaGreatDoor
open Tryz
open List (length_append getElem_mem append_assoc)
open Lib (decDigits hid)
open Go.RowKit
attribute [local go_sem ↓] Go.wp_at_zero Go.wp_at_succ
def qAx (l : List Int) : List UInt8 := l.flatMap (fun n => [47] ++ (decDigits (Int.toNat (n % 18446744073709551616))))
def qKa (a : Adr) : List UInt8 := [32] ++ bs a.addr ++ qAx (a.ttl ++ a.rng)
def qKg (x : Con) : List UInt8 := [99, 61] ++ bs x.net ++ [32] ++ bs x.addr
def qI9 (x : Con) : List UInt8 := qKg x ++ x.adrs.flatMap qKa
def bwL (b : Bwd) : List UInt8 := (if b.x then [98, 61, 88, 45] else [98, 61]) ++ bs b.ty ++ [58] ++ (decDigits (Int.toNat b.n))
def qDi (xs : List Con) (ys : List Bwd) : List (List UInt8) := xs.map qI9 ++ ys.map bwL
def qI0 (xs : List Con) : Prop := ∀ x ∈ xs, ∀ a ∈ x.adrs, a.ttl.length + a.rng.length <= 1099511627776
theorem qLu {α β : Type} (f : α -> List β) (l : List α) (k : Nat) : ((l.take k).flatMap f).length <= (l.flatMap f).length := by
 conv => rhs; rw [<- List.take_append_drop k l]
 rw [List.flatMap_append, length_append]
 omega
set_option maxRecDepth 100000 in
set_option maxHeartbeats 2000000 in
theorem qIa (xs : List Con) (ys : List Bwd) (v v' : Value) (w : World) (h : qC0.Sl w xs v) (h' : qBx.Sl w ys v') (hb : Lns (qDi xs ys)) (hsz : qI0 xs) :
 Calls prog 34 #[v, v'] w fun e w' => ∃ v', e = .returned v' /\ qB2 w' w.heap.size v' (qDi xs ys) /\ Nw w w' := by
 obtain ⟨A, c, rfl⟩ := Ty.Sl_form h
 obtain ⟨A', c', rfl⟩ := Ty.Sl_form h'
 have hm := h.1
 have hm' := h'.1
 have HB := hid hb
 have HZ := hid hsz
 have hlenA : xs.length + ys.length <= 1099511627776 := by have := hb.len; simpa [qDi] using this
 clear hb hsz
 go_enter func34, ntmps34
 go_wp2
 go_loopw [5, 18] (fun out i wr => ∃ k : Nat, k <= xs.length /\ i = .int .i64 k /\ qB2 wr w.heap.size out ((xs.take k).map qI9) /\ Nw w wr) (fun out i _ => xs.length - (intOf i).toNat)
 case atStart => exact ⟨0, Nat.zero_le _, rfl, qB2.nil _ _, Nw.refl _⟩
 obtain ⟨k, hk, rfl, hrow, hnw⟩ := hrel
 by_cases hlt : k < xs.length
 · obtain ⟨b, o, rfl, ha⟩ := Ty.Sl_at h k hlt
   obtain ⟨cs, ⟨v1, rfl, hs0, hs1, h1⟩, hx⟩ := ha k _ (List.getElem?_eq_getElem hlt)
   obtain ⟨A1, n1, rfl⟩ := Ty.Sl_form h1
   have c0 := hnw.cell (hx 0 _ rfl)
   have c1 := hnw.cell (hx 1 _ rfl)
   have c2 := hnw.cell (hx 2 _ rfl)
   simp only [qC0, Nat.add_zero] at c0 c1 c2
   have hm1 := h1.1
   have HT : Hid ((xs.take k).map qI9 ++ [qI9 xs[k]] = (xs.take (k + 1)).map qI9) := hid (qGt _ hlt)
   have hlen : ((xs.take k).map qI9).length + 1 <= 1099511627776 := by simp; omega
   have hcl : (qI9 xs[k]).length <= qBj := HB.out.all _ (List.mem_append_left _ (List.mem_map_of_mem (getElem_mem hlt)))
   have hzl := HZ.out _ (getElem_mem hlt)
   clear hx ha
   obtain ⟨t, ht⟩ : ∃ t, t = xs[k] := ⟨_, rfl⟩
   rw [<- ht] at c0 c1 c2 hs0 hs1 h1 hm1 HT hcl hzl
   have HZL := hid hzl
   clear ht hzl
   have q0 : t.net.size <= 1152921504606846976 := hs0
   have q1 : t.addr.size <= 1152921504606846976 := hs1
   have HS0 : Hid ((⟨#[99, 61]⟩ : ByteArray) ++ t.net ++ ⟨#[32]⟩ ++ t.addr = mk (qKg t ++ (t.adrs.take 0).flatMap qKa)) := hid (by simp only [List.take_zero, List.flatMap_nil, List.append_nil]; unfold qKg; (simp [cat, bs, mk, append_assoc]))
   have e0 := qCq ⟨#[99, 61]⟩ t.net
   have e1 := qCq ((⟨#[99, 61]⟩ : ByteArray) ++ t.net) ⟨#[32]⟩
   rw [show (⟨#[99, 61]⟩ : ByteArray).size = 2 from rfl] at e0
   rw [show (⟨#[32]⟩ : ByteArray).size = 1 from rfl] at e1
   go_wp2
   obtain ⟨wC, hwC⟩ : ∃ wC, wC = wr.alloc (.cells #[.string t.net, .string t.addr, .slice A1 t.adrs.length n1] 124) := ⟨_, rfl⟩
   have hqC : Nw wr wC := by rw [hwC]; exact (Nw.refl wr).alloc _
   have hrowC := hrow.nw hqC
   have hnC := hnw.trans hqC
   rw [<- hwC]
   clear hwC c0 c1 c2 hrow e0 e1
   unfold qI9 at hcl
   rw [length_append] at hcl
   go_loopw [8, 32] (fun s i wr => ∃ j : Nat, j <= t.adrs.length /\ i = .int .i64 j /\ s = .string (mk (qKg t ++ (t.adrs.take j).flatMap qKa)) /\ Nw wC wr) (fun s i _ => t.adrs.length - (intOf i).toNat)
   case atStart => exact ⟨0, Nat.zero_le _, rfl, by rw [HS0.out], Nw.refl _⟩
   obtain ⟨j, hj, rfl, rfl, hnw2⟩ := hrel
   by_cases hlt2 : j < t.adrs.length
   · obtain ⟨b1, o1, rfl, ha1⟩ := Ty.Sl_at h1 j hlt2
     obtain ⟨cs, ⟨u1, u2, rfl, hs2, t1, t2⟩, hx⟩ := ha1 j _ (List.getElem?_eq_getElem hlt2)
     have c0 := (hnC.trans hnw2).cell (hx 0 _ rfl)
     have c1 := (hnC.trans hnw2).cell (hx 1 _ rfl)
     have c2 := (hnC.trans hnw2).cell (hx 2 _ rfl)
     simp only [qE2, Nat.add_zero] at c0 c1 c2
     have hzy := HZL.out _ (getElem_mem hlt2)
     have hfs := qDp qKa hlt2
     have hfl := qLu qKa t.adrs (j + 1)
     rw [<- hfs] at hfl
     clear hx ha1
     obtain ⟨y, hy⟩ : ∃ y, y = t.adrs[j] := ⟨_, rfl⟩
     rw [<- hy] at c0 hs2 t1 t2 hzy hfs hfl
     clear hy
     have q2 : y.addr.size <= 1152921504606846976 := hs2
     obtain ⟨A2, n2, rfl⟩ := Ty.Sl_form t1
     obtain ⟨A3, n3, rfl⟩ := Ty.Sl_form t2
     obtain ⟨l0, hl0⟩ : ∃ l0, l0 = qKg t ++ (t.adrs.take j).flatMap qKa := ⟨_, rfl⟩
     have HF : Hid (l0 ++ qKa y = qKg t ++ (t.adrs.take (j + 1)).flatMap qKa) := hid (by rw [hl0, append_assoc, hfs])
     have hl0s : l0.length + (qKa y).length <= qBj := by rw [hl0]; simp only [length_append] at hfl ⊢; omega
     have HS1 : Hid (mk l0 ++ ((⟨#[32]⟩ : ByteArray) ++ y.addr) = mk (l0 ++ ([32] ++ bs y.addr) ++ qAx ((y.ttl ++ y.rng).take 0))) := hid (by simp only [List.take_zero, qAx, List.flatMap_nil, List.append_nil]; (simp [cat, bs, mk, append_assoc]))
     have HF2 : Hid (l0 ++ ([32] ++ bs y.addr) ++ qAx (y.ttl ++ y.rng) = l0 ++ qKa y) := hid (by unfold qKa; simp)
     have hl1s : (l0 ++ ([32] ++ bs y.addr)).length + (qAx (y.ttl ++ y.rng)).length <= qBj := by
      rw [<- length_append, HF2.out, length_append]; exact hl0s
     have e0 := qCq ⟨#[32]⟩ y.addr
     rw [show (⟨#[32]⟩ : ByteArray).size = 1 from rfl] at e0
     have e1 := qAy l0
     simp only [qBj] at hl0s
     rw [<- hl0]
     clear hl0 hfs hfl
     go_wp2
     obtain ⟨wD, hwD⟩ : ∃ wD, wD = wr.alloc (.cells #[.string y.addr, .slice A2 y.ttl.length n2, .slice A3 y.rng.length n3] 126) := ⟨_, rfl⟩
     have g1 : wD.cell? ⟨wr.heap.size, 1, none⟩ = some (.slice A2 y.ttl.length n2) := by rw [hwD]; go_simp
     have g2 : wD.cell? ⟨wr.heap.size, 2, none⟩ = some (.slice A3 y.rng.length n3) := by rw [hwD]; go_simp
     have hqD : Nw wC wD := by rw [hwD]; exact hnw2.alloc _
     have hnD : Nw w wD := hnC.trans hqD
     have u1 : tyI.Sl wD y.ttl (.slice A2 y.ttl.length n2) := Ty.Sl_loc hnD.block t1
     have u2 : tyI.Sl wD y.rng (.slice A3 y.rng.length n3) := Ty.Sl_loc hnD.block t2
     rw [<- hwD]
     clear hwD c0 c1 c2 t1 t2 e0 e1
     go_region_held3 (fun w' => w'.cell? ⟨wr.heap.size, 1, none⟩ = some (.slice A2 y.ttl.length n2) /\ w'.cell? ⟨wr.heap.size, 2, none⟩ = some (.slice A3 y.rng.length n3)) (first | go_keep | exact ⟨Nw.cell (by assumption) g1, Nw.cell (by assumption) g2⟩)
      (first
       | (refine qA3 rfl ?_; refine qCh (T := tyI) wD.heap.size (.tmp 41) (.tmp 43) 82 3 (.int .i64 0) 8 (by rfl) underlying82 inf3 rfl (by decide) (.slice (some ⟨wD.heap.size, 0, none⟩) 0 0) _ [] y.ttl (by rfl) (by rfl) (by exact Ty.Sl_loc (((Nw.refl wD).alloc _).drew).block u1) (by exact (qKf wD wD.heap.size 3 1 (Nat.le_refl _)).nw (Nw.refl _).drew) (by simp) (by simp; omega) (by simp; omega) ?_; intro v1 w2 news1 hnl1 hnr1 hrow1 hfr1 hat1; have hq2 : Nw wD w2 := Nw.frIn ((Nw.refl wD).alloc _).drew hfr1 (by intro i hi; simp [Value.ownBlock] at hi; omega))
       | (refine qA3 rfl ?_; refine qCh (T := tyI) wD.heap.size (.tmp 44) (.tmp 46) 82 3 (.int .i64 0) 8 (by rfl) underlying82 inf3 rfl (by decide) v1 _ ([] ++ news1) y.rng (by rfl) (by rfl) (by exact Ty.Sl_loc hq2.block u2) hrow1 (by exact hq2.size) (by simp; omega) (by simp; omega) ?_; intro v2 w3 news2 hnl2 hnr2 hrow2 hfr2 hat2; have hq3 : Nw wD w3 := Nw.frIn hq2 hfr2 (by intro i hi; exact (hrow1.base i hi.symm).1); obtain ⟨A4, c4, rfl, _⟩ := hrow2.form))
     have hlenZ : ([] ++ news1 ++ news2).length = (y.ttl ++ y.rng).length := by simp [hnl1, hnl2]
     have hsl : tyI.Sl w3 (y.ttl ++ y.rng) (.slice A4 ([] ++ news1 ++ news2).length c4) := Row.sl (T := tyI) hrow2 hlenZ.symm (by rw [hlenZ]; simp; omega) (fun k x r hx hr => by
      simp only [List.nil_append] at hr
      rcases Nat.lt_or_ge k y.ttl.length with hk | hk
      · rw [List.getElem?_append_left hk] at hx
        rw [List.getElem?_append_left (by omega)] at hr
        exact hnr1 k x r hx hr
      rw [List.getElem?_append_right hk] at hx
      rw [List.getElem?_append_right (by omega), hnl1] at hr
      exact hnr2 _ x r hx hr)
     obtain ⟨zs, hzs⟩ : ∃ zs, y.ttl ++ y.rng = zs := ⟨_, rfl⟩
     have hzl : y.ttl.length + y.rng.length = zs.length := by rw [<- hzs]; simp
     have hz2 : zs.length <= 1099511627776 := by rw [<- hzs]; simp; omega
     have HZ2 : Hid (([] ++ news1 ++ news2).length = zs.length /\ news1.length + news2.length = zs.length) := hid ⟨by rw [hlenZ, hzs], by rw [<- hzs]; simp [hnl1, hnl2]⟩
     rw [hzs] at hsl hl1s HF2 HS1
     rw [HZ2.out.1] at hsl ⊢
     have hq4 : Nw wC w3 := hqD.trans hq3
     clear hrow1 hrow2 hnr1 hnr2 hlenZ hfr1 hfr2 hat1 hat2 u1 u2 g1 g2 hzs hzy hnl1 hnl2
     go_wp2
     obtain ⟨l1, hl1⟩ : ∃ l1, l1 = l0 ++ ([32] ++ bs y.addr) := ⟨_, rfl⟩
     rw [<- hl1] at hl1s HF2 HS1
     clear hl1
     go_loopw [8, 49] (fun s i wr => ∃ l : Nat, l <= zs.length /\ i = .int .i64 l /\ s = .string (mk (l1 ++ qAx (zs.take l))) /\ Nw w3 wr) (fun s i _ => zs.length - (intOf i).toNat)
     case atStart => exact ⟨0, Nat.zero_le _, rfl, by rw [HS1.out], Nw.refl _⟩
     obtain ⟨l, hl, rfl, rfl, hnw3⟩ := hrel
     by_cases hlt3 : l < zs.length
     · obtain ⟨b2, o2, rfl, ha2⟩ := Ty.Sl_at hsl l hlt3
       obtain ⟨cs, ⟨rfl, hwf⟩, hx⟩ := ha2 l _ (List.getElem?_eq_getElem hlt3)
       have hx := hnw3.cell (hx 0 _ rfl)
       simp only [tyI, qCn, Ty.flat, Nat.mul_one, Nat.add_zero] at hx
       have p0 : (0 : Int) <= zs[l] % 18446744073709551616 := by omega
       have p1 : zs[l] % 18446744073709551616 < 18446744073709551616 := by omega
       have d0 := qDf (u := (zs[l] % 18446744073709551616).toNat) (by omega)
       have HS2 : Hid (mk (l1 ++ qAx (zs.take l)) ++ ((⟨#[47]⟩ : ByteArray) ++ mk ((decDigits (Int.toNat (zs[l] % 18446744073709551616))))) = mk (l1 ++ qAx (zs.take (l + 1)))) := hid (by
        rw [show qAx (zs.take (l + 1)) = qAx (zs.take l) ++ ([47] ++ (decDigits (Int.toNat (zs[l] % 18446744073709551616)))) from (qDp (fun n => [47] ++ (decDigits (Int.toNat (n % 18446744073709551616)))) hlt3).symm]
        (simp [cat, bs, mk, append_assoc]))
       have e0 := qCq ⟨#[47]⟩ (mk ((decDigits (Int.toNat (zs[l] % 18446744073709551616)))))
       rw [show (⟨#[47]⟩ : ByteArray).size = 1 from rfl] at e0
       have e1 := qAy (l1 ++ qAx (zs.take l))
       have e2 : (qAx (zs.take l)).length <= (qAx zs).length := qLu _ zs l
       rw [length_append] at e1
       simp only [qBj] at hl1s
       have hw : IntKind.u64.wrap zs[l] = zs[l] % 18446744073709551616 := IntKind.wrap_u64 _
       obtain ⟨z, hz⟩ : ∃ z, z = zs[l] % 18446744073709551616 := ⟨_, rfl⟩
       rw [<- hz] at p0 p1 d0 HS2 e0 hw
       clear hz
       go_wp2_with (go_at_call 32; with_reducible refine (qDg z _ p0 p1).mono ?_; rintro e w6 ⟨rfl, hn6⟩)
       exact ⟨⟨l + 1, by omega, by go_num, by rw [HS2.out], hnw3.trans hn6⟩, by simp [intOf]; omega⟩
     rw [List.take_of_length_le (by omega), HF2.out, HF.out]
     have q9 : Nw wC wr := hq4.trans hnw3
     clear HF HF2
     go_wp2
     exact ⟨⟨j + 1, by omega, by go_num, rfl, q9⟩, by simp [intOf]; omega⟩
   rw [List.take_of_length_le (by omega)]
   have HS : Hid (mk (qKg t ++ t.adrs.flatMap qKa) = mk (qI9 t)) := hid rfl
   have hrow6 := hrowC.nw hnw2
   have hn6 := hnC.trans hnw2
   go_wp2_with ((refine qAc rfl fun K hK => ?_; (with_reducible refine qCd (ops := #[]) (.tmp 61) (.tmp 63) ?_ u5 ((xs.take k).map qI9) _ _ HS ?_ ?_ ?_ ?_ hrow6 hn6 ?_ ?_); (focus rfl); (focus rfl); rotate_left 1; (focus rfl); (focus simp only [World.alloc, Array.size_push]); (focus omega); intro v1 w9 hr9 hn9 hf9 ho9; refine hK _ _ ?_))
   exact ⟨⟨k + 1, by omega, by go_num, by rw [<- HT.out]; exact hr9, hn9⟩, by simp [intOf]; omega⟩
 rw [List.take_of_length_le (by omega)] at hrow
 go_wp2
 go_loopw [5, 68] (fun out i wr => ∃ k : Nat, k <= ys.length /\ i = .int .i64 k /\ qB2 wr w.heap.size out (xs.map qI9 ++ (ys.take k).map bwL) /\ Nw w wr) (fun out i _ => ys.length - (intOf i).toNat)
 case atStart => exact ⟨0, Nat.zero_le _, rfl, by simpa using hrow, hnw⟩
 obtain ⟨k, hk, rfl, hrow, hnw⟩ := hrel
 by_cases hlt : k < ys.length
 · obtain ⟨b, o, rfl, ha⟩ := Ty.Sl_at h' k hlt
   obtain ⟨cs, ⟨rfl, hs0, hs1⟩, hx⟩ := ha k _ (List.getElem?_eq_getElem hlt)
   have c0 := hnw.cell (hx 0 _ rfl)
   have c1 := hnw.cell (hx 1 _ rfl)
   have c2 := hnw.cell (hx 2 _ rfl)
   simp only [qBx, Ty.flat, Nat.add_zero] at c0 c1 c2
   have HT : Hid (xs.map qI9 ++ (ys.take k).map bwL ++ [bwL ys[k]] = xs.map qI9 ++ (ys.take (k + 1)).map bwL) := hid (by rw [append_assoc, qGt _ hlt])
   have hlen : (xs.map qI9 ++ (ys.take k).map bwL).length + 1 <= 1099511627776 := by simp; omega
   have hbl : Hid ((bwL ys[k]).length <= qBj) := hid (HB.out.all _ (List.mem_append_right _ (List.mem_map_of_mem (getElem_mem hlt))))
   clear hx ha
   obtain ⟨t, ht⟩ : ∃ t, t = ys[k] := ⟨_, rfl⟩
   rw [<- ht] at c0 c1 c2 hs0 hs1 HT hbl
   clear ht
   have q0 : t.ty.size <= 1152921504606846976 := hs0
   have s1 := qGu hs1
   have d1 := qFh hs1
   cases hxx : t.x
   · rw [hxx] at c0
     have HS : Hid ((⟨#[98, 61]⟩ : ByteArray) ++ t.ty ++ (⟨#[58]⟩ : ByteArray) ++ mk ((decDigits (Int.toNat t.n))) = mk (bwL t)) := hid (by unfold bwL; rw [hxx]; (simp [cat, bs, mk, append_assoc]))
     go_wp2
     obtain ⟨wB, hwB⟩ : ∃ wB, wB = wr.alloc (.cells #[.bool false, .string t.ty, .int .u64 t.n] 146) := ⟨_, rfl⟩
     have g1 : wB.cell? ⟨wr.heap.size, 1, none⟩ = some (.string t.ty) := by rw [hwB]; go_simp
     have g2 : wB.cell? ⟨wr.heap.size, 2, none⟩ = some (.int .u64 t.n) := by rw [hwB]; go_simp
     have hqB : Nw wr wB := by rw [hwB]; exact (Nw.refl wr).alloc _
     have hrowB := hrow.nw hqB
     have hnB := hnw.trans hqB
     have hne : ¬ some wr.heap.size = u5.ownBlock := fun e => Nat.lt_irrefl _ (Row.base hrow _ e.symm).2
     rw [<- hwB]
     clear hwB c0 c1 c2 hrow
     have y0 : ¬ 9223372036854775807 < 2 + t.ty.size := by omega
     have y3 : ¬ 9223372036854775807 < 2 + t.ty.size + 1 := by omega
     have y4 : ¬ 9223372036854775807 < 2 + t.ty.size + 1 + (mk ((decDigits (Int.toNat t.n)))).size := by omega
     go_region_held3 (fun w' => w'.cell? ⟨wr.heap.size, 1, none⟩ = some (.string t.ty) /\ w'.cell? ⟨wr.heap.size, 2, none⟩ = some (.int .u64 t.n)) (first | go_keep | exact ⟨Nw.cell (by (apply_rules [Nw.refl, Nw.drew, Nw.drewN, Nw.alloc])) g1, Nw.cell (by (apply_rules [Nw.refl, Nw.drew, Nw.drewN, Nw.alloc])) g2⟩)
      (first
       | (go_at_call 32; with_reducible refine (qDg t.n _ s1.1 s1.2).mono ?_; rintro e w1 ⟨rfl, hn1⟩; have hq1 : Nw wB w1 := Nw.trans (by (apply_rules [Nw.refl, Nw.drew, Nw.drewN, Nw.alloc])) hn1)
       | ((refine qA3 rfl ?_; (with_reducible refine qEb (ops := #[]) (.tmp 76) (.tmp 86) ?_ u5 (xs.map qI9 ++ (ys.take k).map bwL) _ _ HS hbl ?_ ?_ ?_ ?_ (qB2.nw hrowB ?_) (Nw.trans hnB ?_) ?_ ?_); (focus rfl); (focus rfl); rotate_left 1; (focus rfl); (focus go_simp); (focus (apply_rules [Nw.refl, Nw.drew, Nw.drewN, Nw.alloc])); (focus (apply_rules [Nw.refl, Nw.drew, Nw.drewN, Nw.alloc])); (focus omega); intro v3 w3 hr3 hn3 hf3 ho3); have k1 := hf3.cell hne (Nw.cell (by (apply_rules [Nw.refl, Nw.drew, Nw.drewN, Nw.alloc])) g1); have k2 := hf3.cell hne (Nw.cell (by (apply_rules [Nw.refl, Nw.drew, Nw.drewN, Nw.alloc])) g2)))
     go_wp2
     exact ⟨⟨k + 1, by omega, by go_num, by rw [<- HT.out]; exact hr3, hn3⟩, by simp [intOf]; omega⟩
   rw [hxx] at c0
   have HS : Hid (((⟨#[98, 61]⟩ : ByteArray) ++ (⟨#[88, 45]⟩ : ByteArray)) ++ t.ty ++ (⟨#[58]⟩ : ByteArray) ++ mk ((decDigits (Int.toNat t.n))) = mk (bwL t)) := hid (by unfold bwL; rw [hxx]; (simp [cat, bs, mk, append_assoc]))
   go_wp2
   obtain ⟨wB, hwB⟩ : ∃ wB, wB = wr.alloc (.cells #[.bool true, .string t.ty, .int .u64 t.n] 146) := ⟨_, rfl⟩
   have g1 : wB.cell? ⟨wr.heap.size, 1, none⟩ = some (.string t.ty) := by rw [hwB]; go_simp
   have g2 : wB.cell? ⟨wr.heap.size, 2, none⟩ = some (.int .u64 t.n) := by rw [hwB]; go_simp
   have hqB : Nw wr wB := by rw [hwB]; exact (Nw.refl wr).alloc _
   have hrowB := hrow.nw hqB
   have hnB := hnw.trans hqB
   have hne : ¬ some wr.heap.size = u5.ownBlock := fun e => Nat.lt_irrefl _ (Row.base hrow _ e.symm).2
   rw [<- hwB]
   clear hwB c0 c1 c2 hrow
   have y0 : ¬ 9223372036854775807 < 2 + 2 + t.ty.size := by omega
   have y3 : ¬ 9223372036854775807 < 2 + 2 + t.ty.size + 1 := by omega
   have y4 : ¬ 9223372036854775807 < 2 + 2 + t.ty.size + 1 + (mk ((decDigits (Int.toNat t.n)))).size := by omega
   go_region_held3 (fun w' => w'.cell? ⟨wr.heap.size, 1, none⟩ = some (.string t.ty) /\ w'.cell? ⟨wr.heap.size, 2, none⟩ = some (.int .u64 t.n)) (first | go_keep | exact ⟨Nw.cell (by (apply_rules [Nw.refl, Nw.drew, Nw.drewN, Nw.alloc])) g1, Nw.cell (by (apply_rules [Nw.refl, Nw.drew, Nw.drewN, Nw.alloc])) g2⟩)
    (first
     | (go_at_call 32; with_reducible refine (qDg t.n _ s1.1 s1.2).mono ?_; rintro e w1 ⟨rfl, hn1⟩; have hq1 : Nw wB w1 := Nw.trans (by (apply_rules [Nw.refl, Nw.drew, Nw.drewN, Nw.alloc])) hn1)
     | ((refine qA3 rfl ?_; (with_reducible refine qEb (ops := #[]) (.tmp 76) (.tmp 86) ?_ u5 (xs.map qI9 ++ (ys.take k).map bwL) _ _ HS hbl ?_ ?_ ?_ ?_ (qB2.nw hrowB ?_) (Nw.trans hnB ?_) ?_ ?_); (focus rfl); (focus rfl); rotate_left 1; (focus rfl); (focus go_simp); (focus (apply_rules [Nw.refl, Nw.drew, Nw.drewN, Nw.alloc])); (focus (apply_rules [Nw.refl, Nw.drew, Nw.drewN, Nw.alloc])); (focus omega); intro v3 w3 hr3 hn3 hf3 ho3); have k1 := hf3.cell hne (Nw.cell (by (apply_rules [Nw.refl, Nw.drew, Nw.drewN, Nw.alloc])) g1); have k2 := hf3.cell hne (Nw.cell (by (apply_rules [Nw.refl, Nw.drew, Nw.drewN, Nw.alloc])) g2)))
   go_wp2
   exact ⟨⟨k + 1, by omega, by go_num, by rw [<- HT.out]; exact hr3, hn3⟩, by simp [intOf]; omega⟩
 rw [List.take_of_length_le (by omega)] at hrow
 go_wp2
 go_ret
 exact ⟨_, rfl, hrow, hnw⟩
end Go.Proofs.YtcepdjlknalmnaaGreatDoor
/- What a session's lines are. -/
namespace Go.Proofs.YtcepdjlknalmnaaGreatDoor
open Tryz
open List (length_append getElem_mem append_assoc)
open Lib (decDigits hid)
open Go.RowKit
def verL (x : Ssn) : List UInt8 := [118, 61] ++ (Lib.itoa x.ver)
def orgL (o : Org) : List UInt8 := [111, 61] ++ bs o.user ++ [32] ++ (decDigits (Int.toNat o.id)) ++ [32] ++ (decDigits (Int.toNat o.ver)) ++ [32] ++ bs o.net ++ [32] ++ bs o.addr ++ [32] ++ bs o.adr
def qOe (x : Ssn) : List UInt8 := [115, 61] ++ bs x.name
def qHp (x : Ssn) : List (List UInt8) := [verL x, orgL x.org, qOe x]
def qBq (zs : List Zon) : List (List UInt8) := zs.flatMap (fun z => [(decDigits (Int.toNat z.time)), (Lib.itoa z.off)])
def qJa (zs : List Zon) : List UInt8 := [122, 61] ++ qAk [32] ((qBq zs).map mk)
def qD4 (zs : List Zon) : List (List UInt8) := if zs.length = 0 then [] else [qJa zs]
def qCo (m : Med) : List UInt8 := (decDigits (Int.toNat (m.port % 18446744073709551616))) ++ qAx m.ports
def medL (m : Med) : List UInt8 := [109, 61] ++ bs m.name ++ [32] ++ qCo m ++ [32] ++ qAk [47] m.protos ++ [32] ++ qAk [32] m.fmts
def qDr (m : Med) : List (List UInt8) := [medL m] ++ qCa ⟨#[105]⟩ m.title ++ qDi m.conn m.bws ++ qCa ⟨#[107]⟩ m.key ++ m.atts.map qHm
def qMi (x : Ssn) : List (List UInt8) := qHp x ++ qCa ⟨#[105]⟩ x.info ++ qCa ⟨#[117]⟩ x.uri ++ qCa ⟨#[101]⟩ x.email ++ qCa ⟨#[112]⟩ x.phone ++ qDi x.conn x.bws ++ qDx x.times ++ qD4 x.zones ++ qCa ⟨#[107]⟩ x.key ++ x.atts.map qHm
def qCw (x : Ssn) : List (List UInt8) := qMi x ++ x.media.flatMap qDr
end Go.Proofs.YtcepdjlknalmnaaGreatDoor

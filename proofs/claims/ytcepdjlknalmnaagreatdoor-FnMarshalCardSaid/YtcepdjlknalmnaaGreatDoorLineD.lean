/- The reference's lines of connections and bandwidths. -/
import Derived.Test.YtcepdjlknalmnaaGreatDoorTxtD
import Derived.Test.YtcepdjlknalmnaaGreatDoorSpecC
namespace Go.Proofs.YtcepdjlknalmnaaGreatDoor
open Go.RowKit
set_option linter.unusedSimpArgs false
set_option linter.unusedVariables false
attribute [local go_sem ↓] Go.wp_at_zero Go.wp_at_succ
def numsL (l : List Int) : List UInt8 := l.flatMap (fun n => [47] ++ (Lib.decDigits (Int.toNat (n % 18446744073709551616))))
def adrL (a : Adr) : List UInt8 := [32] ++ bs a.addr ++ numsL (a.ttl ++ a.rng)
def conHd (x : Con) : List UInt8 := [99, 61] ++ bs x.net ++ [32] ++ bs x.addr
def conL (x : Con) : List UInt8 := conHd x ++ x.adrs.flatMap adrL
def bwL (b : Bwd) : List UInt8 := (if b.x then [98, 61, 88, 45] else [98, 61]) ++ bs b.ty ++ [58] ++ (Lib.decDigits (Int.toNat b.n))
def sharedL (xs : List Con) (ys : List Bwd) : List (List UInt8) := xs.map conL ++ ys.map bwL
def ConSz (xs : List Con) : Prop := ∀ x ∈ xs, ∀ a ∈ x.adrs, a.ttl.length + a.rng.length ≤ 1099511627776
theorem flat_le {α β : Type} (f : α → List β) (l : List α) (k : Nat) : ((l.take k).flatMap f).length ≤ (l.flatMap f).length := by
 conv => rhs; rw [← List.take_append_drop k l]
 rw [List.flatMap_append, List.length_append]
 omega
set_option maxRecDepth 100000 in
set_option maxHeartbeats 2000000 in
theorem spec_shared (xs : List Con) (ys : List Bwd) (v v' : Value) (w : World) (h : tyCon.Sl w xs v) (h' : tyBwd.Sl w ys v') (hb : Lns (sharedL xs ys)) (hsz : ConSz xs) :
 Calls Tryz.prog 34 #[v, v'] w fun e w' => ∃ v', e = .returned v' ∧ RowS w' w.heap.size v' (sharedL xs ys) ∧ Nw w w' := by
 obtain ⟨A, c, rfl⟩ := Ty.Sl_form h
 obtain ⟨A', c', rfl⟩ := Ty.Sl_form h'
 have hm := h.1
 have hm' := h'.1
 have HB := Lib.hid hb
 have HZ := Lib.hid hsz
 have hlenA : xs.length + ys.length ≤ 1099511627776 := by have := hb.len; simpa [sharedL] using this
 clear hb hsz
 go_enter Tryz.func34, Tryz.ntmps34
 go_wp2
 go_loopw [5, 18] (fun out i wr => ∃ k : Nat, k ≤ xs.length ∧ i = .int .i64 k ∧ RowS wr w.heap.size out ((xs.take k).map conL) ∧ Nw w wr) (fun out i _ => xs.length - (intOf i).toNat)
 case atStart => exact ⟨0, Nat.zero_le _, rfl, RowS.nil _ _, Nw.refl _⟩
 case round =>
  obtain ⟨k, hk, rfl, hrow, hnw⟩ := hrel
  by_cases hlt : k < xs.length
  · obtain ⟨b, o, rfl, ha⟩ := Ty.Sl_at h k hlt
    obtain ⟨cs, ⟨v1, rfl, hs0, hs1, h1⟩, hx⟩ := ha k _ (List.getElem?_eq_getElem hlt)
    obtain ⟨A1, n1, rfl⟩ := Ty.Sl_form h1
    have c0 := hnw.cell (hx 0 _ rfl)
    have c1 := hnw.cell (hx 1 _ rfl)
    have c2 := hnw.cell (hx 2 _ rfl)
    simp only [tyCon, Nat.add_zero] at c0 c1 c2
    have hm1 := h1.1
    have HT : Hid ((xs.take k).map conL ++ [conL xs[k]] = (xs.take (k + 1)).map conL) := Lib.hid (map_snoc _ hlt)
    have hlen : ((xs.take k).map conL).length + 1 ≤ 1099511627776 := by simp; omega
    have hcl : (conL xs[k]).length ≤ strMax := HB.out.all _ (List.mem_append_left _ (List.mem_map_of_mem (List.getElem_mem hlt)))
    have hzl := HZ.out _ (List.getElem_mem hlt)
    clear hx ha
    obtain ⟨t, ht⟩ : ∃ t, t = xs[k] := ⟨_, rfl⟩
    rw [← ht] at c0 c1 c2 hs0 hs1 h1 hm1 HT hcl hzl
    have HZL := Lib.hid hzl
    clear ht hzl
    have q0 : t.net.size ≤ 1152921504606846976 := hs0
    have q1 : t.addr.size ≤ 1152921504606846976 := hs1
    have HS0 : Hid ((⟨#[99, 61]⟩ : ByteArray) ++ t.net ++ ⟨#[32]⟩ ++ t.addr = mk (conHd t ++ (t.adrs.take 0).flatMap adrL)) := Lib.hid (by simp only [List.take_zero, List.flatMap_nil, List.append_nil]; unfold conHd; (simp [cat, bs, mk, List.append_assoc]))
    have e0 := cat_size ⟨#[99, 61]⟩ t.net
    have e1 := cat_size ((⟨#[99, 61]⟩ : ByteArray) ++ t.net) ⟨#[32]⟩
    rw [show (⟨#[99, 61]⟩ : ByteArray).size = 2 from rfl] at e0
    rw [show (⟨#[32]⟩ : ByteArray).size = 1 from rfl] at e1
    go_wp2
    obtain ⟨wC, hwC⟩ : ∃ wC, wC = wr.alloc (.cells #[.string t.net, .string t.addr, .slice A1 t.adrs.length n1] 124) := ⟨_, rfl⟩
    have hqC : Nw wr wC := by rw [hwC]; exact (Nw.refl wr).alloc _
    have hrowC := hrow.nw hqC
    have hnC := hnw.trans hqC
    rw [← hwC]
    clear hwC c0 c1 c2 hrow e0 e1
    unfold conL at hcl
    rw [List.length_append] at hcl
    go_loopw [8, 32] (fun s i wr => ∃ j : Nat, j ≤ t.adrs.length ∧ i = .int .i64 j ∧ s = .string (mk (conHd t ++ (t.adrs.take j).flatMap adrL)) ∧ Nw wC wr) (fun s i _ => t.adrs.length - (intOf i).toNat)
    case atStart => exact ⟨0, Nat.zero_le _, rfl, by rw [HS0.out], Nw.refl _⟩
    case round =>
     obtain ⟨j, hj, rfl, rfl, hnw2⟩ := hrel
     by_cases hlt2 : j < t.adrs.length
     · obtain ⟨b1, o1, rfl, ha1⟩ := Ty.Sl_at h1 j hlt2
       obtain ⟨cs, ⟨u1, u2, rfl, hs2, t1, t2⟩, hx⟩ := ha1 j _ (List.getElem?_eq_getElem hlt2)
       have c0 := (hnC.trans hnw2).cell (hx 0 _ rfl)
       have c1 := (hnC.trans hnw2).cell (hx 1 _ rfl)
       have c2 := (hnC.trans hnw2).cell (hx 2 _ rfl)
       simp only [tyAdr, Nat.add_zero] at c0 c1 c2
       have hzy := HZL.out _ (List.getElem_mem hlt2)
       have hfs := flat_snoc adrL hlt2
       have hfl := flat_le adrL t.adrs (j + 1)
       rw [← hfs] at hfl
       clear hx ha1
       obtain ⟨y, hy⟩ : ∃ y, y = t.adrs[j] := ⟨_, rfl⟩
       rw [← hy] at c0 hs2 t1 t2 hzy hfs hfl
       clear hy
       have q2 : y.addr.size ≤ 1152921504606846976 := hs2
       obtain ⟨A2, n2, rfl⟩ := Ty.Sl_form t1
       obtain ⟨A3, n3, rfl⟩ := Ty.Sl_form t2
       obtain ⟨l0, hl0⟩ : ∃ l0, l0 = conHd t ++ (t.adrs.take j).flatMap adrL := ⟨_, rfl⟩
       have HF : Hid (l0 ++ adrL y = conHd t ++ (t.adrs.take (j + 1)).flatMap adrL) := Lib.hid (by rw [hl0, List.append_assoc, hfs])
       have hl0s : l0.length + (adrL y).length ≤ strMax := by rw [hl0]; simp only [List.length_append] at hfl ⊢; omega
       have HS1 : Hid (mk l0 ++ ((⟨#[32]⟩ : ByteArray) ++ y.addr) = mk (l0 ++ ([32] ++ bs y.addr) ++ numsL ((y.ttl ++ y.rng).take 0))) := Lib.hid (by simp only [List.take_zero, numsL, List.flatMap_nil, List.append_nil]; (simp [cat, bs, mk, List.append_assoc]))
       have HF2 : Hid (l0 ++ ([32] ++ bs y.addr) ++ numsL (y.ttl ++ y.rng) = l0 ++ adrL y) := Lib.hid (by unfold adrL; simp)
       have hl1s : (l0 ++ ([32] ++ bs y.addr)).length + (numsL (y.ttl ++ y.rng)).length ≤ strMax := by
        rw [← List.length_append, HF2.out, List.length_append]; exact hl0s
       have e0 := cat_size ⟨#[32]⟩ y.addr
       rw [show (⟨#[32]⟩ : ByteArray).size = 1 from rfl] at e0
       have e1 := mk_size l0
       simp only [strMax] at hl0s
       rw [← hl0]
       clear hl0 hfs hfl
       go_wp2
       obtain ⟨wD, hwD⟩ : ∃ wD, wD = wr.alloc (.cells #[.string y.addr, .slice A2 y.ttl.length n2, .slice A3 y.rng.length n3] 126) := ⟨_, rfl⟩
       have g1 : wD.cell? ⟨wr.heap.size, 1, none⟩ = some (.slice A2 y.ttl.length n2) := by rw [hwD]; go_simp
       have g2 : wD.cell? ⟨wr.heap.size, 2, none⟩ = some (.slice A3 y.rng.length n3) := by rw [hwD]; go_simp
       have hqD : Nw wC wD := by rw [hwD]; exact hnw2.alloc _
       have hnD : Nw w wD := hnC.trans hqD
       have u1 : tyI.Sl wD y.ttl (.slice A2 y.ttl.length n2) := Ty.Sl_loc hnD.block t1
       have u2 : tyI.Sl wD y.rng (.slice A3 y.rng.length n3) := Ty.Sl_loc hnD.block t2
       rw [← hwD]
       clear hwD c0 c1 c2 t1 t2 e0 e1
       go_region_held3 (fun w' => w'.cell? ⟨wr.heap.size, 1, none⟩ = some (.slice A2 y.ttl.length n2) ∧ w'.cell? ⟨wr.heap.size, 2, none⟩ = some (.slice A3 y.rng.length n3)) (first | go_keep | exact ⟨Nw.cell (by assumption) g1, Nw.cell (by assumption) g2⟩)
        (first
         | (refine at_step rfl ?_; refine row_appendsSl (T := tyI) wD.heap.size (.tmp 41) (.tmp 43) 82 3 (.int .i64 0) 8 (by rfl) Tryz.underlying82 inf3 rfl (by decide) (.slice (some ⟨wD.heap.size, 0, none⟩) 0 0) _ [] y.ttl (by rfl) (by rfl) (by exact Ty.Sl_loc (((Nw.refl wD).alloc _).drew).block u1) (by exact (row_empty wD wD.heap.size 3 1 (Nat.le_refl _)).nw (Nw.refl _).drew) (by simp) (by simp; omega) (by simp; omega) ?_; intro v1 w2 news1 hnl1 hnr1 hrow1 hfr1 hat1; have hq2 : Nw wD w2 := Nw.frIn ((Nw.refl wD).alloc _).drew hfr1 (by intro i hi; simp [Value.ownBlock] at hi; omega))
         | (refine at_step rfl ?_; refine row_appendsSl (T := tyI) wD.heap.size (.tmp 44) (.tmp 46) 82 3 (.int .i64 0) 8 (by rfl) Tryz.underlying82 inf3 rfl (by decide) v1 _ ([] ++ news1) y.rng (by rfl) (by rfl) (by exact Ty.Sl_loc hq2.block u2) hrow1 (by exact hq2.size) (by simp; omega) (by simp; omega) ?_; intro v2 w3 news2 hnl2 hnr2 hrow2 hfr2 hat2; have hq3 : Nw wD w3 := Nw.frIn hq2 hfr2 (by intro i hi; exact (hrow1.base i hi.symm).1); obtain ⟨A4, c4, rfl, _⟩ := hrow2.form))
       have hlenZ : ([] ++ news1 ++ news2).length = (y.ttl ++ y.rng).length := by simp [hnl1, hnl2]
       have hsl : tyI.Sl w3 (y.ttl ++ y.rng) (.slice A4 ([] ++ news1 ++ news2).length c4) := Row.sl (T := tyI) hrow2 hlenZ.symm (by rw [hlenZ]; simp; omega) (fun k x r hx hr => by
        simp only [List.nil_append] at hr
        rcases Nat.lt_or_ge k y.ttl.length with hk | hk
        · rw [List.getElem?_append_left hk] at hx
          rw [List.getElem?_append_left (by omega)] at hr
          exact hnr1 k x r hx hr
        · rw [List.getElem?_append_right hk] at hx
          rw [List.getElem?_append_right (by omega), hnl1] at hr
          exact hnr2 _ x r hx hr)
       obtain ⟨zs, hzs⟩ : ∃ zs, y.ttl ++ y.rng = zs := ⟨_, rfl⟩
       have hzl : y.ttl.length + y.rng.length = zs.length := by rw [← hzs]; simp
       have hz2 : zs.length ≤ 1099511627776 := by rw [← hzs]; simp; omega
       have HZ2 : Hid (([] ++ news1 ++ news2).length = zs.length ∧ news1.length + news2.length = zs.length) := Lib.hid ⟨by rw [hlenZ, hzs], by rw [← hzs]; simp [hnl1, hnl2]⟩
       rw [hzs] at hsl hl1s HF2 HS1
       rw [HZ2.out.1] at hsl ⊢
       have hq4 : Nw wC w3 := hqD.trans hq3
       clear hrow1 hrow2 hnr1 hnr2 hlenZ hfr1 hfr2 hat1 hat2 u1 u2 g1 g2 hzs hzy hnl1 hnl2
       go_wp2
       obtain ⟨l1, hl1⟩ : ∃ l1, l1 = l0 ++ ([32] ++ bs y.addr) := ⟨_, rfl⟩
       rw [← hl1] at hl1s HF2 HS1
       clear hl1
       go_loopw [8, 49] (fun s i wr => ∃ l : Nat, l ≤ zs.length ∧ i = .int .i64 l ∧ s = .string (mk (l1 ++ numsL (zs.take l))) ∧ Nw w3 wr) (fun s i _ => zs.length - (intOf i).toNat)
       case atStart => exact ⟨0, Nat.zero_le _, rfl, by rw [HS1.out], Nw.refl _⟩
       case round =>
        obtain ⟨l, hl, rfl, rfl, hnw3⟩ := hrel
        by_cases hlt3 : l < zs.length
        · obtain ⟨b2, o2, rfl, ha2⟩ := Ty.Sl_at hsl l hlt3
          obtain ⟨cs, ⟨rfl, hwf⟩, hx⟩ := ha2 l _ (List.getElem?_eq_getElem hlt3)
          have hx := hnw3.cell (hx 0 _ rfl)
          simp only [tyI, tyInt, Ty.flat, Nat.mul_one, Nat.add_zero] at hx
          have p0 : (0 : Int) ≤ zs[l] % 18446744073709551616 := by omega
          have p1 : zs[l] % 18446744073709551616 < 18446744073709551616 := by omega
          have d0 := dec_len (u := (zs[l] % 18446744073709551616).toNat) (by omega)
          have HS2 : Hid (mk (l1 ++ numsL (zs.take l)) ++ ((⟨#[47]⟩ : ByteArray) ++ mk ((Lib.decDigits (Int.toNat (zs[l] % 18446744073709551616))))) = mk (l1 ++ numsL (zs.take (l + 1)))) := Lib.hid (by
           rw [show numsL (zs.take (l + 1)) = numsL (zs.take l) ++ ([47] ++ (Lib.decDigits (Int.toNat (zs[l] % 18446744073709551616)))) from (flat_snoc (fun n => [47] ++ (Lib.decDigits (Int.toNat (n % 18446744073709551616)))) hlt3).symm]
           (simp [cat, bs, mk, List.append_assoc]))
          have e0 := cat_size ⟨#[47]⟩ (mk ((Lib.decDigits (Int.toNat (zs[l] % 18446744073709551616)))))
          rw [show (⟨#[47]⟩ : ByteArray).size = 1 from rfl] at e0
          have e1 := mk_size (l1 ++ numsL (zs.take l))
          have e2 : (numsL (zs.take l)).length ≤ (numsL zs).length := flat_le _ zs l
          rw [List.length_append] at e1
          simp only [strMax] at hl1s
          have hw : IntKind.u64.wrap zs[l] = zs[l] % 18446744073709551616 := IntKind.wrap_u64 _
          obtain ⟨z, hz⟩ : ∃ z, z = zs[l] % 18446744073709551616 := ⟨_, rfl⟩
          rw [← hz] at p0 p1 d0 HS2 e0 hw
          clear hz
          go_wp2_with (go_at_call 32; with_reducible refine (dec_any z _ p0 p1).mono ?_; rintro e w6 ⟨rfl, hn6⟩)
          exact ⟨⟨l + 1, by omega, by go_num, by rw [HS2.out], hnw3.trans hn6⟩, by simp [intOf]; omega⟩
        · rw [List.take_of_length_le (by omega), HF2.out, HF.out]
          have q9 : Nw wC wr := hq4.trans hnw3
          clear HF HF2
          go_wp2
          exact ⟨⟨j + 1, by omega, by go_num, rfl, q9⟩, by simp [intOf]; omega⟩
     · rw [List.take_of_length_le (by omega)]
       have HS : Hid (mk (conHd t ++ t.adrs.flatMap adrL) = mk (conL t)) := Lib.hid rfl
       have hrow6 := hrowC.nw hnw2
       have hn6 := hnC.trans hnw2
       go_wp2_with ((refine at_list rfl fun K hK => ?_; (with_reducible refine rowS_append (ops := #[]) (.tmp 61) (.tmp 63) ?_ u5 ((xs.take k).map conL) _ _ HS ?_ ?_ ?_ ?_ hrow6 hn6 ?_ ?_); (focus rfl); (focus rfl); rotate_left 1; (focus rfl); (focus simp only [World.alloc, Array.size_push]); (focus omega); intro v1 w9 hr9 hn9 hf9 ho9; refine hK _ _ ?_))
       exact ⟨⟨k + 1, by omega, by go_num, by rw [← HT.out]; exact hr9, hn9⟩, by simp [intOf]; omega⟩
  · rw [List.take_of_length_le (by omega)] at hrow
    go_wp2
    go_loopw [5, 68] (fun out i wr => ∃ k : Nat, k ≤ ys.length ∧ i = .int .i64 k ∧ RowS wr w.heap.size out (xs.map conL ++ (ys.take k).map bwL) ∧ Nw w wr) (fun out i _ => ys.length - (intOf i).toNat)
    case atStart => exact ⟨0, Nat.zero_le _, rfl, by simpa using hrow, hnw⟩
    case round =>
     obtain ⟨k, hk, rfl, hrow, hnw⟩ := hrel
     by_cases hlt : k < ys.length
     · obtain ⟨b, o, rfl, ha⟩ := Ty.Sl_at h' k hlt
       obtain ⟨cs, ⟨rfl, hs0, hs1⟩, hx⟩ := ha k _ (List.getElem?_eq_getElem hlt)
       have c0 := hnw.cell (hx 0 _ rfl)
       have c1 := hnw.cell (hx 1 _ rfl)
       have c2 := hnw.cell (hx 2 _ rfl)
       simp only [tyBwd, Ty.flat, Nat.add_zero] at c0 c1 c2
       have HT : Hid (xs.map conL ++ (ys.take k).map bwL ++ [bwL ys[k]] = xs.map conL ++ (ys.take (k + 1)).map bwL) := Lib.hid (by rw [List.append_assoc, map_snoc _ hlt])
       have hlen : (xs.map conL ++ (ys.take k).map bwL).length + 1 ≤ 1099511627776 := by simp; omega
       have hbl : Hid ((bwL ys[k]).length ≤ strMax) := Lib.hid (HB.out.all _ (List.mem_append_right _ (List.mem_map_of_mem (List.getElem_mem hlt))))
       clear hx ha
       obtain ⟨t, ht⟩ : ∃ t, t = ys[k] := ⟨_, rfl⟩
       rw [← ht] at c0 c1 c2 hs0 hs1 HT hbl
       clear ht
       have q0 : t.ty.size ≤ 1152921504606846976 := hs0
       have s1 := wf_u64 hs1
       have d1 := dec_le hs1
       cases hxx : t.x
       · rw [hxx] at c0
         have HS : Hid ((⟨#[98, 61]⟩ : ByteArray) ++ t.ty ++ (⟨#[58]⟩ : ByteArray) ++ mk ((Lib.decDigits (Int.toNat t.n))) = mk (bwL t)) := Lib.hid (by unfold bwL; rw [hxx]; (simp [cat, bs, mk, List.append_assoc]))
         go_wp2
         obtain ⟨wB, hwB⟩ : ∃ wB, wB = wr.alloc (.cells #[.bool false, .string t.ty, .int .u64 t.n] 146) := ⟨_, rfl⟩
         have g1 : wB.cell? ⟨wr.heap.size, 1, none⟩ = some (.string t.ty) := by rw [hwB]; go_simp
         have g2 : wB.cell? ⟨wr.heap.size, 2, none⟩ = some (.int .u64 t.n) := by rw [hwB]; go_simp
         have hqB : Nw wr wB := by rw [hwB]; exact (Nw.refl wr).alloc _
         have hrowB := hrow.nw hqB
         have hnB := hnw.trans hqB
         have hne : ¬ some wr.heap.size = u5.ownBlock := fun e => Nat.lt_irrefl _ (Row.base hrow _ e.symm).2
         rw [← hwB]
         clear hwB c0 c1 c2 hrow
         have y0 : ¬ 9223372036854775807 < 2 + t.ty.size := by omega
         have y3 : ¬ 9223372036854775807 < 2 + t.ty.size + 1 := by omega
         have y4 : ¬ 9223372036854775807 < 2 + t.ty.size + 1 + (mk ((Lib.decDigits (Int.toNat t.n)))).size := by omega
         go_region_held3 (fun w' => w'.cell? ⟨wr.heap.size, 1, none⟩ = some (.string t.ty) ∧ w'.cell? ⟨wr.heap.size, 2, none⟩ = some (.int .u64 t.n)) (first | go_keep | exact ⟨Nw.cell (by (repeat (first | (with_reducible assumption) | (with_reducible exact Nw.refl _) | (with_reducible refine Nw.drew ?_) | (with_reducible refine Nw.drewN ?_ _) | (with_reducible refine Nw.alloc ?_ _)))) g1, Nw.cell (by (repeat (first | (with_reducible assumption) | (with_reducible exact Nw.refl _) | (with_reducible refine Nw.drew ?_) | (with_reducible refine Nw.drewN ?_ _) | (with_reducible refine Nw.alloc ?_ _)))) g2⟩)
          (first
           | (go_at_call 32; with_reducible refine (dec_any t.n _ s1.1 s1.2).mono ?_; rintro e w1 ⟨rfl, hn1⟩; have hq1 : Nw wB w1 := Nw.trans (by (repeat (first | (with_reducible assumption) | (with_reducible exact Nw.refl _) | (with_reducible refine Nw.drew ?_) | (with_reducible refine Nw.drewN ?_ _) | (with_reducible refine Nw.alloc ?_ _)))) hn1)
           | ((refine at_step rfl ?_; (with_reducible refine rowS_appendC (ops := #[]) (.tmp 76) (.tmp 86) ?_ u5 (xs.map conL ++ (ys.take k).map bwL) _ _ HS hbl ?_ ?_ ?_ ?_ (RowS.nw hrowB ?_) (Nw.trans hnB ?_) ?_ ?_); (focus rfl); (focus rfl); rotate_left 1; (focus rfl); (focus go_simp); (focus (repeat (first | (with_reducible assumption) | (with_reducible exact Nw.refl _) | (with_reducible refine Nw.drew ?_) | (with_reducible refine Nw.drewN ?_ _) | (with_reducible refine Nw.alloc ?_ _)))); (focus (repeat (first | (with_reducible assumption) | (with_reducible exact Nw.refl _) | (with_reducible refine Nw.drew ?_) | (with_reducible refine Nw.drewN ?_ _) | (with_reducible refine Nw.alloc ?_ _)))); (focus omega); intro v3 w3 hr3 hn3 hf3 ho3); have k1 := hf3.cell hne (Nw.cell (by (repeat (first | (with_reducible assumption) | (with_reducible exact Nw.refl _) | (with_reducible refine Nw.drew ?_) | (with_reducible refine Nw.drewN ?_ _) | (with_reducible refine Nw.alloc ?_ _)))) g1); have k2 := hf3.cell hne (Nw.cell (by (repeat (first | (with_reducible assumption) | (with_reducible exact Nw.refl _) | (with_reducible refine Nw.drew ?_) | (with_reducible refine Nw.drewN ?_ _) | (with_reducible refine Nw.alloc ?_ _)))) g2)))
         go_wp2
         exact ⟨⟨k + 1, by omega, by go_num, by rw [← HT.out]; exact hr3, hn3⟩, by simp [intOf]; omega⟩
       · rw [hxx] at c0
         have HS : Hid (((⟨#[98, 61]⟩ : ByteArray) ++ (⟨#[88, 45]⟩ : ByteArray)) ++ t.ty ++ (⟨#[58]⟩ : ByteArray) ++ mk ((Lib.decDigits (Int.toNat t.n))) = mk (bwL t)) := Lib.hid (by unfold bwL; rw [hxx]; (simp [cat, bs, mk, List.append_assoc]))
         go_wp2
         obtain ⟨wB, hwB⟩ : ∃ wB, wB = wr.alloc (.cells #[.bool true, .string t.ty, .int .u64 t.n] 146) := ⟨_, rfl⟩
         have g1 : wB.cell? ⟨wr.heap.size, 1, none⟩ = some (.string t.ty) := by rw [hwB]; go_simp
         have g2 : wB.cell? ⟨wr.heap.size, 2, none⟩ = some (.int .u64 t.n) := by rw [hwB]; go_simp
         have hqB : Nw wr wB := by rw [hwB]; exact (Nw.refl wr).alloc _
         have hrowB := hrow.nw hqB
         have hnB := hnw.trans hqB
         have hne : ¬ some wr.heap.size = u5.ownBlock := fun e => Nat.lt_irrefl _ (Row.base hrow _ e.symm).2
         rw [← hwB]
         clear hwB c0 c1 c2 hrow
         have y0 : ¬ 9223372036854775807 < 2 + 2 + t.ty.size := by omega
         have y3 : ¬ 9223372036854775807 < 2 + 2 + t.ty.size + 1 := by omega
         have y4 : ¬ 9223372036854775807 < 2 + 2 + t.ty.size + 1 + (mk ((Lib.decDigits (Int.toNat t.n)))).size := by omega
         go_region_held3 (fun w' => w'.cell? ⟨wr.heap.size, 1, none⟩ = some (.string t.ty) ∧ w'.cell? ⟨wr.heap.size, 2, none⟩ = some (.int .u64 t.n)) (first | go_keep | exact ⟨Nw.cell (by (repeat (first | (with_reducible assumption) | (with_reducible exact Nw.refl _) | (with_reducible refine Nw.drew ?_) | (with_reducible refine Nw.drewN ?_ _) | (with_reducible refine Nw.alloc ?_ _)))) g1, Nw.cell (by (repeat (first | (with_reducible assumption) | (with_reducible exact Nw.refl _) | (with_reducible refine Nw.drew ?_) | (with_reducible refine Nw.drewN ?_ _) | (with_reducible refine Nw.alloc ?_ _)))) g2⟩)
          (first
           | (go_at_call 32; with_reducible refine (dec_any t.n _ s1.1 s1.2).mono ?_; rintro e w1 ⟨rfl, hn1⟩; have hq1 : Nw wB w1 := Nw.trans (by (repeat (first | (with_reducible assumption) | (with_reducible exact Nw.refl _) | (with_reducible refine Nw.drew ?_) | (with_reducible refine Nw.drewN ?_ _) | (with_reducible refine Nw.alloc ?_ _)))) hn1)
           | ((refine at_step rfl ?_; (with_reducible refine rowS_appendC (ops := #[]) (.tmp 76) (.tmp 86) ?_ u5 (xs.map conL ++ (ys.take k).map bwL) _ _ HS hbl ?_ ?_ ?_ ?_ (RowS.nw hrowB ?_) (Nw.trans hnB ?_) ?_ ?_); (focus rfl); (focus rfl); rotate_left 1; (focus rfl); (focus go_simp); (focus (repeat (first | (with_reducible assumption) | (with_reducible exact Nw.refl _) | (with_reducible refine Nw.drew ?_) | (with_reducible refine Nw.drewN ?_ _) | (with_reducible refine Nw.alloc ?_ _)))); (focus (repeat (first | (with_reducible assumption) | (with_reducible exact Nw.refl _) | (with_reducible refine Nw.drew ?_) | (with_reducible refine Nw.drewN ?_ _) | (with_reducible refine Nw.alloc ?_ _)))); (focus omega); intro v3 w3 hr3 hn3 hf3 ho3); have k1 := hf3.cell hne (Nw.cell (by (repeat (first | (with_reducible assumption) | (with_reducible exact Nw.refl _) | (with_reducible refine Nw.drew ?_) | (with_reducible refine Nw.drewN ?_ _) | (with_reducible refine Nw.alloc ?_ _)))) g1); have k2 := hf3.cell hne (Nw.cell (by (repeat (first | (with_reducible assumption) | (with_reducible exact Nw.refl _) | (with_reducible refine Nw.drew ?_) | (with_reducible refine Nw.drewN ?_ _) | (with_reducible refine Nw.alloc ?_ _)))) g2)))
         go_wp2
         exact ⟨⟨k + 1, by omega, by go_num, by rw [← HT.out]; exact hr3, hn3⟩, by simp [intOf]; omega⟩
     · rw [List.take_of_length_le (by omega)] at hrow
       go_wp2
       go_ret
       exact ⟨_, rfl, hrow, hnw⟩
end Go.Proofs.YtcepdjlknalmnaaGreatDoor
/- What a session's lines are. -/
namespace Go.Proofs.YtcepdjlknalmnaaGreatDoor
open Go.RowKit
def verL (x : Ssn) : List UInt8 := [118, 61] ++ (Lib.itoa x.ver)
def orgL (o : Org) : List UInt8 := [111, 61] ++ bs o.user ++ [32] ++ (Lib.decDigits (Int.toNat o.id)) ++ [32] ++ (Lib.decDigits (Int.toNat o.ver)) ++ [32] ++ bs o.net ++ [32] ++ bs o.addr ++ [32] ++ bs o.adr
def nameL (x : Ssn) : List UInt8 := [115, 61] ++ bs x.name
def headLs (x : Ssn) : List (List UInt8) := [verL x, orgL x.org, nameL x]
def zonesW (zs : List Zon) : List (List UInt8) := zs.flatMap (fun z => [(Lib.decDigits (Int.toNat z.time)), (Lib.itoa z.off)])
def zonesL (zs : List Zon) : List UInt8 := [122, 61] ++ joinB [32] ((zonesW zs).map mk)
def zonesLs (zs : List Zon) : List (List UInt8) := if zs.length = 0 then [] else [zonesL zs]
def portL (m : Med) : List UInt8 := (Lib.decDigits (Int.toNat (m.port % 18446744073709551616))) ++ numsL m.ports
def medL (m : Med) : List UInt8 := [109, 61] ++ bs m.name ++ [32] ++ portL m ++ [32] ++ joinB [47] m.protos ++ [32] ++ joinB [32] m.fmts
def medLs (m : Med) : List (List UInt8) := [medL m] ++ textB ⟨#[105]⟩ m.title ++ sharedL m.conn m.bws ++ textB ⟨#[107]⟩ m.key ++ m.atts.map attL
def sessLs (x : Ssn) : List (List UInt8) := headLs x ++ textB ⟨#[105]⟩ x.info ++ textB ⟨#[117]⟩ x.uri ++ textB ⟨#[101]⟩ x.email ++ textB ⟨#[112]⟩ x.phone ++ sharedL x.conn x.bws ++ timeLs x.times ++ zonesLs x.zones ++ textB ⟨#[107]⟩ x.key ++ x.atts.map attL
def linesB (x : Ssn) : List (List UInt8) := sessLs x ++ x.media.flatMap medLs
end Go.Proofs.YtcepdjlknalmnaaGreatDoor

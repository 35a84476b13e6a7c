/- How long each kind of line's body is told to be. Written by a small program of this claim's own (genmsz). -/
import Derived.Test.YtcepdjlknalmnaaGreatDoorMri
import Derived.Deep.RegionHeld3
namespace Go.Proofs.YtcepdjlknalmnaaGreatDoor
open Go.RowKit
set_option linter.unusedSimpArgs false
set_option linter.unusedVariables false
attribute [local go_sem ↓] Go.wp_at_zero Go.wp_at_succ
def d0 (u : Nat) : Nat := if u = 0 then 0 else d0 (u / 10) + 1
theorem d0_zero : d0 0 = 0 := by unfold d0; rfl
theorem d0_pos {u : Nat} (h : u ≠ 0) : d0 u = d0 (u / 10) + 1 := by rw [d0, if_neg h]
theorem d0_dec (u : Nat) : u ≠ 0 → (Lib.decDigits u).length = d0 u := by
 induction u using Nat.strongRecOn with
 | _ u ih =>
  intro h
  rw [Lib.decDigits, d0_pos h]
  split
  · rename_i h1
    rw [show u / 10 = 0 by omega, d0_zero]
    rfl
  · rename_i h1
    rw [List.length_append, ih (u / 10) (by omega) (by omega)]
    rfl
set_option maxRecDepth 100000 in
theorem sz_uint (i : Int) (w : World) (h : WfInt .u64 i) : Calls Tryz.prog 132 #[.int .u64 i] w fun e w' => e = .returned (.int .i64 (((Lib.decDigits (Int.toNat i))).length : Int)) ∧ w' = w := by
 obtain ⟨u, rfl⟩ : ∃ u : Nat, i = u := ⟨i.toNat, by have := (u64_in h).1; omega⟩
 have hu : u < 18446744073709551616 := by have := (u64_in h).2; omega
 rw [Int.toNat_natCast]
 by_cases h0 : u = 0
 · subst h0
   go_enter Tryz.func132, Tryz.ntmps132
   go_wp2
   go_ret
   have e : (Lib.decDigits 0).length = 1 := by rw [Lib.decDigits_length, Lib.nDigits_small (by omega)]
   exact ⟨by rw [e]; rfl, rfl⟩
 · rw [d0_dec u h0]
   have hd : d0 u ≤ 20 := by
    rw [← d0_dec u h0]
    have := dec_le h
    rw [mk_size, Int.toNat_natCast] at this
    omega
   go_enter Tryz.func132, Tryz.ntmps132
   go_wp2
   go_loop [0, 2] (fun i c => ∃ v k : Nat, i = .int .u64 v ∧ c = .int .i64 k ∧ k + d0 v = d0 u ∧ v < 18446744073709551616) (fun i _ => (intOf i).toNat)
   case atStart => exact ⟨u, 0, rfl, rfl, by omega, hu⟩
   case round =>
    obtain ⟨v, k, rfl, rfl, hk, hv⟩ := hrel
    by_cases hv0 : v = 0
    · subst hv0
      rw [d0_zero, Nat.add_zero] at hk
      subst hk
      go_wp2
      go_ret
      exact ⟨rfl, rfl⟩
    · have hd0 := d0_pos hv0
      have b1 : ¬ (v : Int) = 0 := by omega
      have b2 : ((v : Int) != 0) = true := by simp; omega
      have hk2 : k + 1 ≤ 20 := by omega
      go_wp2
      exact ⟨⟨v / 10, k + 1, by go_num, by go_num, by omega, by omega⟩, by simp [intOf]; omega⟩
theorem i64_in {n : Int} (h : WfInt .i64 n) : -9223372036854775808 ≤ n ∧ n ≤ 9223372036854775807 := by
 have e1 : (IntKind.min .i64 : Int) = -9223372036854775808 := by decide
 have e2 : (IntKind.max .i64 : Int) = 9223372036854775807 := by decide
 have h1 := h.1
 have h2 := h.2
 rw [e1] at h1
 rw [e2] at h2
 exact ⟨h1, h2⟩
set_option maxRecDepth 100000 in
theorem sz_int (i : Int) (w : World) (h : WfInt .i64 i) : Calls Tryz.prog 131 #[.int .i64 i] w fun e w' => e = .returned (.int .i64 (((Lib.itoa i)).length : Int)) ∧ w' = w := by
 obtain ⟨h1, h2⟩ := i64_in h
 unfold Lib.itoa
 by_cases h0 : i < 0
 · rw [if_pos h0]
   have hw : IntKind.wrap .u64 (wrap64 (-i)) = (i.natAbs : Int) := by
    have e : IntKind.wrap .u64 (wrap64 (-i)) = (wrap64 (-i)) % 18446744073709551616 := by
     unfold IntKind.wrap
     have : IntKind.signed .u64 = false := rfl
     simp only [this, Bool.false_and]
     rfl
    rw [e]
    unfold wrap64
    omega
   have hu : WfInt .u64 (i.natAbs : Int) := by
    have e1 : (IntKind.min .u64 : Int) = 0 := by decide
    have e2 : (IntKind.max .u64 : Int) = 18446744073709551615 := by decide
    unfold WfInt
    rw [e1, e2]
    omega
   have hd : (Lib.decDigits i.natAbs).length ≤ 20 := by
    have := dec_le hu
    rw [mk_size, Int.toNat_natCast] at this
    omega
   have HC := Lib.hid (sz_uint (i.natAbs : Int) w hu)
   rw [Int.toNat_natCast] at HC
   rw [List.length_cons]
   go_enter Tryz.func131, Tryz.ntmps131
   go_wp2_with (go_at_call 132; (try rw [hw]); (with_reducible refine HC.out.mono ?_); rintro r w1 ⟨rfl, hww⟩; have hww := hww.symm; subst hww)
   go_ret
   exact ⟨by go_num, rfl⟩
 · rw [if_neg h0]
   have hu : WfInt .u64 i := by
    have e1 : (IntKind.min .u64 : Int) = 0 := by decide
    have e2 : (IntKind.max .u64 : Int) = 18446744073709551615 := by decide
    unfold WfInt
    rw [e1, e2]
    omega
   have HC := Lib.hid (sz_uint i w hu)
   go_enter Tryz.func131, Tryz.ntmps131
   go_wp2_with (go_at_call 132; (with_reducible refine HC.out.mono ?_); rintro r w1 ⟨rfl, hww⟩; have hww := hww.symm; subst hww)
   go_ret
   exact ⟨rfl, rfl⟩
theorem wrapI {n : Int} (h : -9223372036854775808 ≤ n ∧ n ≤ 9223372036854775807) : IntKind.wrap .i64 n = n := by
 unfold IntKind.wrap
 have e1 : IntKind.signed .i64 = true := rfl
 have e2 : (2 ^ IntKind.bits .i64 : Int) = 18446744073709551616 := by decide
 have e3 : (2 ^ (IntKind.bits .i64 - 1) : Int) = 9223372036854775808 := by decide
 simp only [e1, e2, e3, Bool.true_and, decide_eq_true_eq]
 split <;> omega
def SzPost (n : Nat) (w : World) (e : Ending) (w' : World) : Prop := e = .returned (.int .i64 (n : Int)) ∧ Nw w w'
theorem dec_decI {n : Int} (h : 0 ≤ n) (hw : WfInt .i64 n) : (Lib.decDigits (Int.toNat n)) = (Lib.decDigits (Int.toNat (n % 18446744073709551616))) ∧ WfInt .u64 n := by
 have h2 := (i64_in hw).2
 have e1 : (IntKind.min .u64 : Int) = 0 := by decide
 have e2 : (IntKind.max .u64 : Int) = 18446744073709551615 := by decide
 refine ⟨by rw [Int.emod_eq_of_lt h (by omega)], ?_⟩
 unfold WfInt
 rw [e1, e2]
 omega
theorem dec_20 {n : Int} (h : WfInt .u64 n) : ((Lib.decDigits (Int.toNat n))).length ≤ 20 := by have := dec_le h; rwa [mk_size] at this
theorem sgn_21 {n : Int} (h : WfInt .i64 n) : ((Lib.itoa n)).length ≤ 21 := by
 obtain ⟨h1, h2⟩ := i64_in h
 have e1 : (IntKind.min .u64 : Int) = 0 := by decide
 have e2 : (IntKind.max .u64 : Int) = 18446744073709551615 := by decide
 unfold Lib.itoa
 split
 · have := dec_20 (n := (n.natAbs : Int)) (by unfold WfInt; rw [e1, e2]; omega)
   rw [Int.toNat_natCast] at this
   rw [List.length_cons]
   omega
 · have := dec_20 (n := n) (by unfold WfInt; rw [e1, e2]; omega)
   omega
theorem sz_name (s : ByteArray) (w : World) : Calls Tryz.prog 104 #[.string s] w (SzPost (bs s).length w) := by
 go_enter Tryz.func104, Tryz.ntmps104
 go_wp2
 go_ret
 exact ⟨rfl, Nw.refl _⟩
theorem sz_info (s : ByteArray) (w : World) : Calls Tryz.prog 105 #[.string s] w (SzPost (bs s).length w) := by
 go_enter Tryz.func105, Tryz.ntmps105
 go_wp2
 go_ret
 exact ⟨rfl, Nw.refl _⟩
theorem sz_mail (s : ByteArray) (w : World) : Calls Tryz.prog 106 #[.string s] w (SzPost (bs s).length w) := by
 go_enter Tryz.func106, Tryz.ntmps106
 go_wp2
 go_ret
 exact ⟨rfl, Nw.refl _⟩
theorem sz_phone (s : ByteArray) (w : World) : Calls Tryz.prog 107 #[.string s] w (SzPost (bs s).length w) := by
 go_enter Tryz.func107, Tryz.ntmps107
 go_wp2
 go_ret
 exact ⟨rfl, Nw.refl _⟩
theorem sz_key (s : ByteArray) (w : World) : Calls Tryz.prog 113 #[.string s] w (SzPost (bs s).length w) := by
 go_enter Tryz.func113, Tryz.ntmps113
 go_wp2
 go_ret
 exact ⟨rfl, Nw.refl _⟩
theorem sz_ver (i : Int) (w : World) (h : WfInt .i64 i) : Calls Tryz.prog 102 #[.int .i64 i] w (SzPost ((Lib.itoa i)).length w) := by
 have HC := Lib.hid (sz_int i w h)
 clear h
 go_enter Tryz.func102, Tryz.ntmps102
 go_wp2_with (go_at_call 131; (with_reducible refine HC.out.mono ?_); rintro r w1 ⟨rfl, hww⟩; have hww := hww.symm; subst hww)
 go_ret
 exact ⟨rfl, Nw.refl _⟩
set_option maxRecDepth 100000 in
theorem sz_tim (a b : Int) (w : World) (h1 : WfInt .u64 a) (h2 : WfInt .u64 b) : Calls Tryz.prog 110 #[.agg #[.int .u64 a, .int .u64 b]] w (SzPost ((Lib.decDigits (Int.toNat a)) ++ (32 :: (Lib.decDigits (Int.toNat b)))).length w) := by
 obtain ⟨g, hgg⟩ : ∃ g, g = w.heap.size := ⟨_, rfl⟩
 obtain ⟨w0, hw0⟩ : ∃ w0, w0 = w.alloc (.cells #[.int .u64 a, .int .u64 b] 174) := ⟨_, rfl⟩
 have q0 : Nw w w0 := by rw [hw0]; exact (Nw.refl w).alloc _
 have H0 : Blk w0 g [.int .u64 a, .int .u64 b] 174 := by rw [hw0, hgg]; exact Blk.made w _ 174
 have c0 := H0.cell 0 rfl
 have c1 := H0.cell 1 rfl
 obtain ⟨na, hna⟩ : ∃ m0 : Nat, m0 = ((Lib.decDigits (Int.toNat a))).length := ⟨_, rfl⟩
 have lna : na ≤ 21 := by rw [hna]; have := dec_20 h1; omega
 have Ana := Lib.hid (fun w => sz_uint (a) w h1)
 rw [← hna] at Ana
 obtain ⟨nb, hnb⟩ : ∃ m0 : Nat, m0 = ((Lib.decDigits (Int.toNat b))).length := ⟨_, rfl⟩
 have lnb : nb ≤ 21 := by rw [hnb]; have := dec_20 h2; omega
 have Anb := Lib.hid (fun w => sz_uint (b) w h2)
 rw [← hnb] at Anb
 rw [show ((Lib.decDigits (Int.toNat a)) ++ (32 :: (Lib.decDigits (Int.toNat b)))).length = na + 1 + nb by rw [hna, hnb]; simp only [List.length_append, List.length_cons]; omega]
 clear hna hnb
 go_enter Tryz.func110, Tryz.ntmps110
 go_upto_region 1 with fail
 rw [← hw0, ← hgg]
 clear hw0 hgg
 go_region_held3 (fun w' => w'.cell? ⟨g, 0, none⟩ = some (.int .u64 a) ∧ w'.cell? ⟨g, 1, none⟩ = some (.int .u64 b)) (first | exact ⟨c0, c1⟩ | go_keep) (first | (go_at_call 132; (with_reducible refine (Ana.out _).mono ?_); rintro r w1 ⟨rfl, hww⟩; have hww := hww.symm; subst hww) | (go_at_call 132; (with_reducible refine (Anb.out _).mono ?_); rintro r w1 ⟨rfl, hww⟩; have hww := hww.symm; subst hww))
 all_goals (go_wp2; go_ret; (refine ⟨?_, q0.drew⟩; simp (disch := omega) only [wrapI]; go_num))
set_option maxRecDepth 100000 in
theorem sz_zon (a b : Int) (w : World) (h1 : WfInt .u64 a) (h2 : WfInt .i64 b) : Calls Tryz.prog 112 #[.agg #[.int .u64 a, .int .i64 b]] w (SzPost ((Lib.decDigits (Int.toNat a)) ++ (32 :: (Lib.itoa b))).length w) := by
 obtain ⟨g, hgg⟩ : ∃ g, g = w.heap.size := ⟨_, rfl⟩
 obtain ⟨w0, hw0⟩ : ∃ w0, w0 = w.alloc (.cells #[.int .u64 a, .int .i64 b] 181) := ⟨_, rfl⟩
 have q0 : Nw w w0 := by rw [hw0]; exact (Nw.refl w).alloc _
 have H0 : Blk w0 g [.int .u64 a, .int .i64 b] 181 := by rw [hw0, hgg]; exact Blk.made w _ 181
 have c0 := H0.cell 0 rfl
 have c1 := H0.cell 1 rfl
 obtain ⟨na, hna⟩ : ∃ m0 : Nat, m0 = ((Lib.decDigits (Int.toNat a))).length := ⟨_, rfl⟩
 have lna : na ≤ 21 := by rw [hna]; have := dec_20 h1; omega
 have Ana := Lib.hid (fun w => sz_uint (a) w h1)
 rw [← hna] at Ana
 obtain ⟨nb, hnb⟩ : ∃ m0 : Nat, m0 = ((Lib.itoa b)).length := ⟨_, rfl⟩
 have lnb : nb ≤ 21 := by rw [hnb]; have := sgn_21 h2; omega
 have Anb := Lib.hid (fun w => sz_int (b) w h2)
 rw [← hnb] at Anb
 rw [show ((Lib.decDigits (Int.toNat a)) ++ (32 :: (Lib.itoa b))).length = na + 1 + nb by rw [hna, hnb]; simp only [List.length_append, List.length_cons]; omega]
 clear hna hnb
 go_enter Tryz.func112, Tryz.ntmps112
 go_upto_region 1 with fail
 rw [← hw0, ← hgg]
 clear hw0 hgg
 go_region_held3 (fun w' => w'.cell? ⟨g, 0, none⟩ = some (.int .u64 a) ∧ w'.cell? ⟨g, 1, none⟩ = some (.int .i64 b)) (first | exact ⟨c0, c1⟩ | go_keep) (first | (go_at_call 132; (with_reducible refine (Ana.out _).mono ?_); rintro r w1 ⟨rfl, hww⟩; have hww := hww.symm; subst hww) | (go_at_call 131; (with_reducible refine (Anb.out _).mono ?_); rintro r w1 ⟨rfl, hww⟩; have hww := hww.symm; subst hww))
 all_goals (go_wp2; go_ret; (refine ⟨?_, q0.drew⟩; simp (disch := omega) only [wrapI]; go_num))
set_option maxRecDepth 100000 in
theorem sz_org (x : Org) (w : World) (h1 : WfInt .u64 x.id) (h2 : WfInt .u64 x.ver) (hl : (bs x.user ++ (32 :: ((Lib.decDigits (Int.toNat x.id)) ++ (32 :: ((Lib.decDigits (Int.toNat x.ver)) ++ (32 :: (bs x.net ++ (32 :: (bs x.addr ++ (32 :: bs x.adr)))))))))).length ≤ 1152921504606846976) : Calls Tryz.prog 103 #[.agg #[.string x.user, .int .u64 x.id, .int .u64 x.ver, .string x.net, .string x.addr, .string x.adr]] w (SzPost (bs x.user ++ (32 :: ((Lib.decDigits (Int.toNat x.id)) ++ (32 :: ((Lib.decDigits (Int.toNat x.ver)) ++ (32 :: (bs x.net ++ (32 :: (bs x.addr ++ (32 :: bs x.adr)))))))))).length w) := by
 obtain ⟨g, hgg⟩ : ∃ g, g = w.heap.size := ⟨_, rfl⟩
 obtain ⟨w0, hw0⟩ : ∃ w0, w0 = w.alloc (.cells #[.string x.user, .int .u64 x.id, .int .u64 x.ver, .string x.net, .string x.addr, .string x.adr] 101) := ⟨_, rfl⟩
 have q0 : Nw w w0 := by rw [hw0]; exact (Nw.refl w).alloc _
 have H0 : Blk w0 g [.string x.user, .int .u64 x.id, .int .u64 x.ver, .string x.net, .string x.addr, .string x.adr] 101 := by rw [hw0, hgg]; exact Blk.made w _ 101
 have c0 := H0.cell 0 rfl
 have c1 := H0.cell 1 rfl
 have c2 := H0.cell 2 rfl
 have c3 := H0.cell 3 rfl
 have c4 := H0.cell 4 rfl
 have c5 := H0.cell 5 rfl
 obtain ⟨na, hna⟩ : ∃ m0 : Nat, m0 = ((Lib.decDigits (Int.toNat x.id))).length := ⟨_, rfl⟩
 have lna : na ≤ 21 := by rw [hna]; have := dec_20 h1; omega
 have Ana := Lib.hid (fun w => sz_uint (x.id) w h1)
 rw [← hna] at Ana
 obtain ⟨nb, hnb⟩ : ∃ m0 : Nat, m0 = ((Lib.decDigits (Int.toNat x.ver))).length := ⟨_, rfl⟩
 have lnb : nb ≤ 21 := by rw [hnb]; have := dec_20 h2; omega
 have Anb := Lib.hid (fun w => sz_uint (x.ver) w h2)
 rw [← hnb] at Anb
 have he : (bs x.user ++ (32 :: ((Lib.decDigits (Int.toNat x.id)) ++ (32 :: ((Lib.decDigits (Int.toNat x.ver)) ++ (32 :: (bs x.net ++ (32 :: (bs x.addr ++ (32 :: bs x.adr)))))))))).length = x.user.size + na + nb + x.net.size + x.addr.size + x.adr.size + 5 := by rw [hna, hnb]; simp only [List.length_append, List.length_cons, len_bs]; omega
 rw [he] at hl ⊢
 clear hna hnb he
 go_enter Tryz.func103, Tryz.ntmps103
 go_upto_region 1 with fail
 rw [← hw0, ← hgg]
 clear hw0 hgg
 go_region_held3 (fun w' => w'.cell? ⟨g, 0, none⟩ = some (.string x.user) ∧ w'.cell? ⟨g, 1, none⟩ = some (.int .u64 x.id) ∧ w'.cell? ⟨g, 2, none⟩ = some (.int .u64 x.ver) ∧ w'.cell? ⟨g, 3, none⟩ = some (.string x.net) ∧ w'.cell? ⟨g, 4, none⟩ = some (.string x.addr) ∧ w'.cell? ⟨g, 5, none⟩ = some (.string x.adr)) (first | exact ⟨c0, c1, c2, c3, c4, c5⟩ | go_keep) (first | (go_at_call 132; (with_reducible refine (Ana.out _).mono ?_); rintro r w1 ⟨rfl, hww⟩; have hww := hww.symm; subst hww) | (go_at_call 132; (with_reducible refine (Anb.out _).mono ?_); rintro r w1 ⟨rfl, hww⟩; have hww := hww.symm; subst hww))
 all_goals (go_wp2; go_ret; (refine ⟨?_, q0.drew⟩; simp (disch := omega) only [wrapI]; go_num))
set_option maxRecDepth 100000 in
theorem sz_bw_true (ty : ByteArray) (n : Int) (w : World) (h1 : WfInt .u64 n) (hl : ([88, 45] ++ (bs ty ++ (58 :: (Lib.decDigits (Int.toNat n))))).length ≤ 1152921504606846976) : Calls Tryz.prog 109 #[.agg #[.bool true, .string ty, .int .u64 n]] w (SzPost ([88, 45] ++ (bs ty ++ (58 :: (Lib.decDigits (Int.toNat n))))).length w) := by
 obtain ⟨g, hgg⟩ : ∃ g, g = w.heap.size := ⟨_, rfl⟩
 obtain ⟨w0, hw0⟩ : ∃ w0, w0 = w.alloc (.cells #[.bool true, .string ty, .int .u64 n] 198) := ⟨_, rfl⟩
 have q0 : Nw w w0 := by rw [hw0]; exact (Nw.refl w).alloc _
 have H0 : Blk w0 g [.bool true, .string ty, .int .u64 n] 198 := by rw [hw0, hgg]; exact Blk.made w _ 198
 have c0 := H0.cell 0 rfl
 have c1 := H0.cell 1 rfl
 have c2 := H0.cell 2 rfl
 obtain ⟨na, hna⟩ : ∃ m0 : Nat, m0 = ((Lib.decDigits (Int.toNat n))).length := ⟨_, rfl⟩
 have lna : na ≤ 21 := by rw [hna]; have := dec_20 h1; omega
 have Ana := Lib.hid (fun w => sz_uint (n) w h1)
 rw [← hna] at Ana
 have he : ([88, 45] ++ (bs ty ++ (58 :: (Lib.decDigits (Int.toNat n))))).length = ty.size + 1 + na + 2 := by rw [hna]; simp only [List.length_append, List.length_cons, List.length_nil, len_bs]; omega
 rw [he] at hl ⊢
 clear hna he
 go_enter Tryz.func109, Tryz.ntmps109
 go_upto_region 1 with fail
 rw [← hw0, ← hgg]
 clear hw0 hgg
 go_upto_region 3 with fail
 go_region_held3 (fun w' => w'.cell? ⟨g, 1, none⟩ = some (.string ty) ∧ w'.cell? ⟨g, 2, none⟩ = some (.int .u64 n)) (first | exact ⟨c1, c2⟩ | go_keep) (first | (go_at_call 132; (with_reducible refine (Ana.out _).mono ?_); rintro r w1 ⟨rfl, hww⟩; have hww := hww.symm; subst hww))
 all_goals (go_wp2; go_ret; (refine ⟨?_, q0.drew⟩; simp (disch := omega) only [wrapI]; go_num))
set_option maxRecDepth 100000 in
theorem sz_bw_false (ty : ByteArray) (n : Int) (w : World) (h1 : WfInt .u64 n) (hl : (bs ty ++ (58 :: (Lib.decDigits (Int.toNat n)))).length ≤ 1152921504606846976) : Calls Tryz.prog 109 #[.agg #[.bool false, .string ty, .int .u64 n]] w (SzPost (bs ty ++ (58 :: (Lib.decDigits (Int.toNat n)))).length w) := by
 obtain ⟨g, hgg⟩ : ∃ g, g = w.heap.size := ⟨_, rfl⟩
 obtain ⟨w0, hw0⟩ : ∃ w0, w0 = w.alloc (.cells #[.bool false, .string ty, .int .u64 n] 198) := ⟨_, rfl⟩
 have q0 : Nw w w0 := by rw [hw0]; exact (Nw.refl w).alloc _
 have H0 : Blk w0 g [.bool false, .string ty, .int .u64 n] 198 := by rw [hw0, hgg]; exact Blk.made w _ 198
 have c0 := H0.cell 0 rfl
 have c1 := H0.cell 1 rfl
 have c2 := H0.cell 2 rfl
 obtain ⟨na, hna⟩ : ∃ m0 : Nat, m0 = ((Lib.decDigits (Int.toNat n))).length := ⟨_, rfl⟩
 have lna : na ≤ 21 := by rw [hna]; have := dec_20 h1; omega
 have Ana := Lib.hid (fun w => sz_uint (n) w h1)
 rw [← hna] at Ana
 have he : (bs ty ++ (58 :: (Lib.decDigits (Int.toNat n)))).length = ty.size + 1 + na := by rw [hna]; simp only [List.length_append, List.length_cons, List.length_nil, len_bs]; omega
 rw [he] at hl ⊢
 clear hna he
 go_enter Tryz.func109, Tryz.ntmps109
 go_upto_region 1 with fail
 rw [← hw0, ← hgg]
 clear hw0 hgg
 go_upto_region 3 with fail
 go_region_held3 (fun w' => w'.cell? ⟨g, 1, none⟩ = some (.string ty) ∧ w'.cell? ⟨g, 2, none⟩ = some (.int .u64 n)) (first | exact ⟨c1, c2⟩ | go_keep) (first | (go_at_call 132; (with_reducible refine (Ana.out _).mono ?_); rintro r w1 ⟨rfl, hww⟩; have hww := hww.symm; subst hww))
 all_goals (go_wp2; go_ret; (refine ⟨?_, q0.drew⟩; simp (disch := omega) only [wrapI]; go_num))
theorem sz_bw (x : Bwd) (w : World) (h1 : WfInt .u64 x.n) (hl : (bwBd x).length ≤ 1152921504606846976) : Calls Tryz.prog 109 #[.agg #[.bool x.x, .string x.ty, .int .u64 x.n]] w (SzPost (bwBd x).length w) := by
 obtain ⟨b, ty, n⟩ := x
 unfold bwBd at hl ⊢
 cases b
 · exact sz_bw_false ty n w h1 (by simpa using hl)
 · exact sz_bw_true ty n w h1 (by simpa using hl)
set_option maxRecDepth 100000 in
theorem sz_att (x : Att) (w : World) (hl : (attBd x).length ≤ 1152921504606846976) : Calls Tryz.prog 114 #[.agg #[.string x.key, .string x.val]] w (SzPost (attBd x).length w) := by
 by_cases hv : x.val.size = 0
 · have ht : attBd x = bs x.key := by simp [attBd, hv]
   have hv2 : ¬ (0 : Int) < (x.val.size : Int) := by omega
   have he : (bs x.key).length = x.key.size := by simp only [List.length_append, List.length_cons, len_bs]; try omega
   rw [ht, he] at hl ⊢
   clear ht he hv
   obtain ⟨g, hgg⟩ : ∃ g, g = w.heap.size := ⟨_, rfl⟩
   obtain ⟨w0, hw0⟩ : ∃ w0, w0 = w.alloc (.cells #[.string x.key, .string x.val] 199) := ⟨_, rfl⟩
   have q0 : Nw w w0 := by rw [hw0]; exact (Nw.refl w).alloc _
   have H0 : Blk w0 g [.string x.key, .string x.val] 199 := by rw [hw0, hgg]; exact Blk.made w _ 199
   have c0 := H0.cell 0 rfl
   have c1 := H0.cell 1 rfl
   go_enter Tryz.func114, Tryz.ntmps114
   go_upto_region 1 with fail
   rw [← hw0, ← hgg]
   clear hw0 hgg
   go_wp2
   go_ret
   (refine ⟨?_, q0⟩; simp (disch := omega) only [wrapI]; go_num)
 · have ht : attBd x = bs x.key ++ (58 :: bs x.val) := by simp [attBd, hv]
   have hv2 : (0 : Int) < (x.val.size : Int) := by omega
   have he : (bs x.key ++ (58 :: bs x.val)).length = x.key.size + (1 + x.val.size) := by simp only [List.length_append, List.length_cons, len_bs]; try omega
   rw [ht, he] at hl ⊢
   clear ht he hv
   obtain ⟨g, hgg⟩ : ∃ g, g = w.heap.size := ⟨_, rfl⟩
   obtain ⟨w0, hw0⟩ : ∃ w0, w0 = w.alloc (.cells #[.string x.key, .string x.val] 199) := ⟨_, rfl⟩
   have q0 : Nw w w0 := by rw [hw0]; exact (Nw.refl w).alloc _
   have H0 : Blk w0 g [.string x.key, .string x.val] 199 := by rw [hw0, hgg]; exact Blk.made w _ 199
   have c0 := H0.cell 0 rfl
   have c1 := H0.cell 1 rfl
   go_enter Tryz.func114, Tryz.ntmps114
   go_upto_region 1 with fail
   rw [← hw0, ← hgg]
   clear hw0 hgg
   go_wp2
   go_ret
   (refine ⟨?_, q0⟩; simp (disch := omega) only [wrapI]; go_num)
set_option maxRecDepth 100000 in
theorem sz_adr (x : Adr) (p1 p2 : Value) (wd w : World) (h1 : tyI.Pt wd x.ttl p1) (h2 : tyI.Pt wd x.rng p2) (hd : Nw wd w) (hz : ∀ n ∈ x.ttl ++ x.rng, 0 ≤ n) (hl : (bs x.addr ++ numsL (x.ttl ++ x.rng)).length ≤ 1152921504606846976) :
 Calls Tryz.prog 133 #[.agg #[.string x.addr, p1, p2]] w (SzPost (bs x.addr ++ numsL (x.ttl ++ x.rng)).length w) := by
 rcases h1 with ⟨e1, rfl⟩ | ⟨t1, b1, e1, rfl, h1⟩
 · rcases h2 with ⟨e2, rfl⟩ | ⟨t2, b2, e2, rfl, h2⟩
   · have ht : bs x.addr ++ numsL (x.ttl ++ x.rng) = bs x.addr := by simp [numsL, e1, e2]
     have he : (bs x.addr).length = x.addr.size := by
      simp only [List.length_append, List.length_cons, len_bs]
      try omega
     rw [ht, he] at hl ⊢
     clear ht he hz
     obtain ⟨g, hgg⟩ : ∃ g, g = w.heap.size := ⟨_, rfl⟩
     obtain ⟨w0, hw0⟩ : ∃ w0, w0 = w.alloc (.cells #[.string x.addr, .pointer none, .pointer none] 217) := ⟨_, rfl⟩
     have q0 : Nw w w0 := by rw [hw0]; exact (Nw.refl w).alloc _
     have H0 : Blk w0 g [.string x.addr, .pointer none, .pointer none] 217 := by rw [hw0, hgg]; exact Blk.made w _ 217
     have c0 := H0.cell 0 rfl
     have c1 := H0.cell 1 rfl
     have c2 := H0.cell 2 rfl
     go_enter Tryz.func133, Tryz.ntmps133
     go_upto_region 1 with fail
     rw [← hw0, ← hgg]
     clear hw0 hgg
     go_wp2
     go_ret
     (refine ⟨?_, q0⟩; simp (disch := omega) only [wrapI]; go_num)
   · obtain ⟨d2, f2⟩ := int_at h2
     have zt2 := hz t2 (by simp [e2])
     obtain ⟨gt2, ut2⟩ := dec_decI zt2 f2
     have yt2 := (i64_in f2).2
     have xt2 : ¬ t2 < 0 := by omega
     have ht : bs x.addr ++ numsL (x.ttl ++ x.rng) = bs x.addr ++ (47 :: (Lib.decDigits (Int.toNat (t2 % 18446744073709551616)))) := by simp [numsL, e1, e2]
     obtain ⟨nb, hnb⟩ : ∃ m0 : Nat, m0 = ((Lib.decDigits (Int.toNat t2))).length := ⟨_, rfl⟩
     have lnb : nb ≤ 21 := by rw [hnb]; have := dec_20 ut2; omega
     have Anb := Lib.hid (fun w => sz_uint (t2) w ut2)
     rw [← hnb] at Anb
     have he : (bs x.addr ++ (47 :: (Lib.decDigits (Int.toNat (t2 % 18446744073709551616))))).length = x.addr.size + (1 + nb) := by
      simp only [List.length_append, List.length_cons, len_bs, ← gt2, ← hnb]
      try omega
     rw [ht, he] at hl ⊢
     clear ht he hz hnb
     obtain ⟨g, hgg⟩ : ∃ g, g = w.heap.size := ⟨_, rfl⟩
     obtain ⟨w0, hw0⟩ : ∃ w0, w0 = w.alloc (.cells #[.string x.addr, .pointer none, .pointer (some ⟨b2, 0, none⟩)] 217) := ⟨_, rfl⟩
     have q0 : Nw w w0 := by rw [hw0]; exact (Nw.refl w).alloc _
     have H0 : Blk w0 g [.string x.addr, .pointer none, .pointer (some ⟨b2, 0, none⟩)] 217 := by rw [hw0, hgg]; exact Blk.made w _ 217
     have c0 := H0.cell 0 rfl
     have c1 := H0.cell 1 rfl
     have c2 := H0.cell 2 rfl
     have d2 := (hd.trans q0).cell d2
     go_enter Tryz.func133, Tryz.ntmps133
     go_upto_region 1 with fail
     rw [← hw0, ← hgg]
     clear hw0 hgg
     go_wp2_with (first | (go_at_call 132; (with_reducible refine (Anb.out _).mono ?_); rintro r w1 ⟨rfl, hww⟩; have hww := hww.symm; subst hww))
     go_ret
     (refine ⟨?_, q0⟩; simp (disch := omega) only [wrapI]; go_num)
 · rcases h2 with ⟨e2, rfl⟩ | ⟨t2, b2, e2, rfl, h2⟩
   · obtain ⟨d1, f1⟩ := int_at h1
     have zt1 := hz t1 (by simp [e1])
     obtain ⟨gt1, ut1⟩ := dec_decI zt1 f1
     have yt1 := (i64_in f1).2
     have xt1 : ¬ t1 < 0 := by omega
     have ht : bs x.addr ++ numsL (x.ttl ++ x.rng) = bs x.addr ++ (47 :: (Lib.decDigits (Int.toNat (t1 % 18446744073709551616)))) := by simp [numsL, e1, e2]
     obtain ⟨na, hna⟩ : ∃ m0 : Nat, m0 = ((Lib.decDigits (Int.toNat t1))).length := ⟨_, rfl⟩
     have lna : na ≤ 21 := by rw [hna]; have := dec_20 ut1; omega
     have Ana := Lib.hid (fun w => sz_uint (t1) w ut1)
     rw [← hna] at Ana
     have he : (bs x.addr ++ (47 :: (Lib.decDigits (Int.toNat (t1 % 18446744073709551616))))).length = x.addr.size + (1 + na) := by
      simp only [List.length_append, List.length_cons, len_bs, ← gt1, ← hna]
      try omega
     rw [ht, he] at hl ⊢
     clear ht he hz hna
     obtain ⟨g, hgg⟩ : ∃ g, g = w.heap.size := ⟨_, rfl⟩
     obtain ⟨w0, hw0⟩ : ∃ w0, w0 = w.alloc (.cells #[.string x.addr, .pointer (some ⟨b1, 0, none⟩), .pointer none] 217) := ⟨_, rfl⟩
     have q0 : Nw w w0 := by rw [hw0]; exact (Nw.refl w).alloc _
     have H0 : Blk w0 g [.string x.addr, .pointer (some ⟨b1, 0, none⟩), .pointer none] 217 := by rw [hw0, hgg]; exact Blk.made w _ 217
     have c0 := H0.cell 0 rfl
     have c1 := H0.cell 1 rfl
     have c2 := H0.cell 2 rfl
     have d1 := (hd.trans q0).cell d1
     go_enter Tryz.func133, Tryz.ntmps133
     go_upto_region 1 with fail
     rw [← hw0, ← hgg]
     clear hw0 hgg
     go_wp2_with (first | (go_at_call 132; (with_reducible refine (Ana.out _).mono ?_); rintro r w1 ⟨rfl, hww⟩; have hww := hww.symm; subst hww))
     go_ret
     (refine ⟨?_, q0⟩; simp (disch := omega) only [wrapI]; go_num)
   · obtain ⟨d1, f1⟩ := int_at h1
     have zt1 := hz t1 (by simp [e1])
     obtain ⟨gt1, ut1⟩ := dec_decI zt1 f1
     have yt1 := (i64_in f1).2
     have xt1 : ¬ t1 < 0 := by omega
     obtain ⟨d2, f2⟩ := int_at h2
     have zt2 := hz t2 (by simp [e2])
     obtain ⟨gt2, ut2⟩ := dec_decI zt2 f2
     have yt2 := (i64_in f2).2
     have xt2 : ¬ t2 < 0 := by omega
     have ht : bs x.addr ++ numsL (x.ttl ++ x.rng) = bs x.addr ++ (47 :: (Lib.decDigits (Int.toNat (t1 % 18446744073709551616)))) ++ (47 :: (Lib.decDigits (Int.toNat (t2 % 18446744073709551616)))) := by simp [numsL, e1, e2]
     obtain ⟨na, hna⟩ : ∃ m0 : Nat, m0 = ((Lib.decDigits (Int.toNat t1))).length := ⟨_, rfl⟩
     have lna : na ≤ 21 := by rw [hna]; have := dec_20 ut1; omega
     have Ana := Lib.hid (fun w => sz_uint (t1) w ut1)
     rw [← hna] at Ana
     obtain ⟨nb, hnb⟩ : ∃ m0 : Nat, m0 = ((Lib.decDigits (Int.toNat t2))).length := ⟨_, rfl⟩
     have lnb : nb ≤ 21 := by rw [hnb]; have := dec_20 ut2; omega
     have Anb := Lib.hid (fun w => sz_uint (t2) w ut2)
     rw [← hnb] at Anb
     have he : (bs x.addr ++ (47 :: (Lib.decDigits (Int.toNat (t1 % 18446744073709551616)))) ++ (47 :: (Lib.decDigits (Int.toNat (t2 % 18446744073709551616))))).length = x.addr.size + (1 + na) + (1 + nb) := by
      simp only [List.length_append, List.length_cons, len_bs, ← gt1, ← hna, ← gt2, ← hnb]
      try omega
     rw [ht, he] at hl ⊢
     clear ht he hz hna hnb
     obtain ⟨g, hgg⟩ : ∃ g, g = w.heap.size := ⟨_, rfl⟩
     obtain ⟨w0, hw0⟩ : ∃ w0, w0 = w.alloc (.cells #[.string x.addr, .pointer (some ⟨b1, 0, none⟩), .pointer (some ⟨b2, 0, none⟩)] 217) := ⟨_, rfl⟩
     have q0 : Nw w w0 := by rw [hw0]; exact (Nw.refl w).alloc _
     have H0 : Blk w0 g [.string x.addr, .pointer (some ⟨b1, 0, none⟩), .pointer (some ⟨b2, 0, none⟩)] 217 := by rw [hw0, hgg]; exact Blk.made w _ 217
     have c0 := H0.cell 0 rfl
     have c1 := H0.cell 1 rfl
     have c2 := H0.cell 2 rfl
     have d1 := (hd.trans q0).cell d1
     have d2 := (hd.trans q0).cell d2
     go_enter Tryz.func133, Tryz.ntmps133
     go_upto_region 1 with fail
     rw [← hw0, ← hgg]
     clear hw0 hgg
     go_wp2_with (first | (go_at_call 132; (with_reducible refine (Ana.out _).mono ?_); rintro r w1 ⟨rfl, hww⟩; have hww := hww.symm; subst hww) | (go_at_call 132; (with_reducible refine (Anb.out _).mono ?_); rintro r w1 ⟨rfl, hww⟩; have hww := hww.symm; subst hww))
     go_ret
     (refine ⟨?_, q0⟩; simp (disch := omega) only [wrapI]; go_num)
set_option maxRecDepth 100000 in
theorem sz_con (x : Con) (p1 : Value) (wd w : World) (h1 : tyPAdr.Pt wd x.adrs p1) (hd : Nw wd w) (hz : ∀ a ∈ x.adrs, ∀ n ∈ a.ttl ++ a.rng, 0 ≤ n) (hl : (conBd x).length ≤ 1152921504606846976) :
 Calls Tryz.prog 108 #[.agg #[.string x.net, .string x.addr, p1]] w (SzPost (conBd x).length w) := by
 rcases h1 with ⟨e1, rfl⟩ | ⟨y, b1, e1, rfl, h1⟩
 · have ht : conBd x = bs x.net ++ (32 :: bs x.addr) := by simp [conBd, e1]
   have he : (bs x.net ++ (32 :: bs x.addr)).length = x.net.size + (1 + x.addr.size) := by simp only [List.length_append, List.length_cons, len_bs]; omega
   rw [ht, he] at hl ⊢
   clear ht he hz
   obtain ⟨g, hgg⟩ : ∃ g, g = w.heap.size := ⟨_, rfl⟩
   obtain ⟨w0, hw0⟩ : ∃ w0, w0 = w.alloc (.cells #[.string x.net, .string x.addr, .pointer none] 215) := ⟨_, rfl⟩
   have q0 : Nw w w0 := by rw [hw0]; exact (Nw.refl w).alloc _
   have H0 : Blk w0 g [.string x.net, .string x.addr, .pointer none] 215 := by rw [hw0, hgg]; exact Blk.made w _ 215
   have c0 := H0.cell 0 rfl
   have c1 := H0.cell 1 rfl
   have c2 := H0.cell 2 rfl
   go_enter Tryz.func108, Tryz.ntmps108
   go_upto_region 1 with fail
   rw [← hw0, ← hgg]
   clear hw0 hgg
   go_wp2
   go_ret
   (refine ⟨?_, q0⟩; simp (disch := omega) only [wrapI]; go_num)
 · have hzy := hz y (by rw [e1]; exact List.mem_cons_self)
   obtain ⟨cs, ⟨r1, r2, rfl, _, k1, k2⟩, hc⟩ := h1 0 y rfl
   have ht : conBd x = bs x.net ++ (32 :: (bs x.addr ++ (32 :: (bs y.addr ++ numsL (y.ttl ++ y.rng))))) := by simp [conBd, adrL, e1]
   have he : (bs x.net ++ (32 :: (bs x.addr ++ (32 :: (bs y.addr ++ numsL (y.ttl ++ y.rng)))))).length = x.net.size + (1 + x.addr.size) + (1 + (bs y.addr ++ numsL (y.ttl ++ y.rng)).length) := by simp only [List.length_append, List.length_cons, len_bs]; omega
   rw [ht, he] at hl ⊢
   clear ht he hz
   obtain ⟨g, hgg⟩ : ∃ g, g = w.heap.size := ⟨_, rfl⟩
   obtain ⟨w0, hw0⟩ : ∃ w0, w0 = w.alloc (.cells #[.string x.net, .string x.addr, .pointer (some ⟨b1, 0, none⟩)] 215) := ⟨_, rfl⟩
   have q0 : Nw w w0 := by rw [hw0]; exact (Nw.refl w).alloc _
   have H0 : Blk w0 g [.string x.net, .string x.addr, .pointer (some ⟨b1, 0, none⟩)] 215 := by rw [hw0, hgg]; exact Blk.made w _ 215
   have c0 := H0.cell 0 rfl
   have c1 := H0.cell 1 rfl
   have c2 := H0.cell 2 rfl
   have A := Lib.hid (fun w4 (q : Nw wd w4) => sz_adr y r1 r2 wd w4 k1 k2 q hzy (by omega))
   have hq := hd.trans q0
   have m0 : w0.cell? ⟨b1, 0, none⟩ = some (.string y.addr) := hq.cell (hc 0 _ rfl)
   have m1 : w0.cell? ⟨b1, 1, none⟩ = some r1 := hq.cell (hc 1 _ rfl)
   have m2 : w0.cell? ⟨b1, 2, none⟩ = some r2 := hq.cell (hc 2 _ rfl)
   obtain ⟨na, hna⟩ : ∃ m0 : Nat, m0 = (bs y.addr ++ numsL (y.ttl ++ y.rng)).length := ⟨_, rfl⟩
   rw [← hna] at A hl ⊢
   clear hc hna hzy
   go_enter Tryz.func108, Tryz.ntmps108
   go_upto_region 1 with fail
   rw [← hw0, ← hgg]
   clear hw0 hgg
   go_wp2_with (go_at_call 133; (with_reducible refine (A.out _ hq).mono ?_); rintro r w1 ⟨rfl, hk⟩)
   go_ret
   (refine ⟨?_, (q0.trans hk)⟩; simp (disch := omega) only [wrapI]; go_num)
set_option maxRecDepth 100000 in
theorem sz_port (p : Int) (ps : List Int) (p1 : Value) (wd w : World) (h1 : tyI.Pt wd ps p1) (hd : Nw wd w) (hw : WfInt .i64 p) (hp : 0 ≤ p) (hz : ∀ n ∈ ps, 0 ≤ n) :
 Calls Tryz.prog 135 #[.agg #[.int .i64 p, p1]] w (SzPost ((Lib.decDigits (Int.toNat (p % 18446744073709551616))) ++ numsL ps).length w) := by
 have g1 := sgn_decI hp hw
 rcases h1 with ⟨e1, rfl⟩ | ⟨y, b1, e1, rfl, h1⟩
 · obtain ⟨na, hna⟩ : ∃ m0 : Nat, m0 = ((Lib.itoa p)).length := ⟨_, rfl⟩
   have lna : na ≤ 21 := by rw [hna]; have := sgn_21 hw; omega
   have Ana := Lib.hid (fun w => sz_int (p) w hw)
   rw [← hna] at Ana
   have ht : (Lib.decDigits (Int.toNat (p % 18446744073709551616))) ++ numsL ps = (Lib.decDigits (Int.toNat (p % 18446744073709551616))) := by simp [numsL, e1]
   have he : ((Lib.decDigits (Int.toNat (p % 18446744073709551616)))).length = na := by
    rw [← g1]
    simp only [List.length_append, List.length_cons, ← hna]
    try omega
   rw [ht, he]
   clear ht he hz hna
   obtain ⟨g, hgg⟩ : ∃ g, g = w.heap.size := ⟨_, rfl⟩
   obtain ⟨w0, hw0⟩ : ∃ w0, w0 = w.alloc (.cells #[.int .i64 p, .pointer none] 202) := ⟨_, rfl⟩
   have q0 : Nw w w0 := by rw [hw0]; exact (Nw.refl w).alloc _
   have H0 : Blk w0 g [.int .i64 p, .pointer none] 202 := by rw [hw0, hgg]; exact Blk.made w _ 202
   have c0 := H0.cell 0 rfl
   have c1 := H0.cell 1 rfl
   go_enter Tryz.func135, Tryz.ntmps135
   go_upto_region 1 with fail
   rw [← hw0, ← hgg]
   clear hw0 hgg
   go_wp2_with (first | (go_at_call 131; (with_reducible refine (Ana.out _).mono ?_); rintro r w1 ⟨rfl, hww⟩; have hww := hww.symm; subst hww))
   go_ret
   (refine ⟨?_, q0⟩; simp (disch := omega) only [wrapI]; go_num)
 · obtain ⟨d1, f1⟩ := int_at h1
   have g2 := sgn_decI (hz y (by simp [e1])) f1
   obtain ⟨na, hna⟩ : ∃ m0 : Nat, m0 = ((Lib.itoa p)).length := ⟨_, rfl⟩
   have lna : na ≤ 21 := by rw [hna]; have := sgn_21 hw; omega
   have Ana := Lib.hid (fun w => sz_int (p) w hw)
   rw [← hna] at Ana
   obtain ⟨nb, hnb⟩ : ∃ m0 : Nat, m0 = ((Lib.itoa y)).length := ⟨_, rfl⟩
   have lnb : nb ≤ 21 := by rw [hnb]; have := sgn_21 f1; omega
   have Anb := Lib.hid (fun w => sz_int (y) w f1)
   rw [← hnb] at Anb
   have ht : (Lib.decDigits (Int.toNat (p % 18446744073709551616))) ++ numsL ps = (Lib.decDigits (Int.toNat (p % 18446744073709551616))) ++ (47 :: (Lib.decDigits (Int.toNat (y % 18446744073709551616)))) := by simp [numsL, e1]
   have he : ((Lib.decDigits (Int.toNat (p % 18446744073709551616))) ++ (47 :: (Lib.decDigits (Int.toNat (y % 18446744073709551616))))).length = na + (1 + nb) := by
    rw [← g1, ← g2]
    simp only [List.length_append, List.length_cons, ← hna, ← hnb]
    try omega
   rw [ht, he]
   clear ht he hz hna hnb
   obtain ⟨g, hgg⟩ : ∃ g, g = w.heap.size := ⟨_, rfl⟩
   obtain ⟨w0, hw0⟩ : ∃ w0, w0 = w.alloc (.cells #[.int .i64 p, .pointer (some ⟨b1, 0, none⟩)] 202) := ⟨_, rfl⟩
   have q0 : Nw w w0 := by rw [hw0]; exact (Nw.refl w).alloc _
   have H0 : Blk w0 g [.int .i64 p, .pointer (some ⟨b1, 0, none⟩)] 202 := by rw [hw0, hgg]; exact Blk.made w _ 202
   have c0 := H0.cell 0 rfl
   have c1 := H0.cell 1 rfl
   have d1 := (hd.trans q0).cell d1
   go_enter Tryz.func135, Tryz.ntmps135
   go_upto_region 1 with fail
   rw [← hw0, ← hgg]
   clear hw0 hgg
   go_wp2_with (first | (go_at_call 131; (with_reducible refine (Ana.out _).mono ?_); rintro r w1 ⟨rfl, hww⟩; have hww := hww.symm; subst hww) | (go_at_call 131; (with_reducible refine (Anb.out _).mono ?_); rintro r w1 ⟨rfl, hww⟩; have hww := hww.symm; subst hww))
   go_ret
   (refine ⟨?_, q0⟩; simp (disch := omega) only [wrapI]; go_num)
end Go.Proofs.YtcepdjlknalmnaaGreatDoor

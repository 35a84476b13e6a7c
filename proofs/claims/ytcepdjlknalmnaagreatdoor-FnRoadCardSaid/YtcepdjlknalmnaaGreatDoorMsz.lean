/- Laws of this claim. -/
import Derived.Test.YtcepdjlknalmnaaGreatDoorMri
set_option linter.unusedSimpArgs false
set_option linter.unusedVariables false
namespace Go.Proofs.YtcepdjlknalmnaaGreatDoor
open Tryz
open List (length_append length_cons)
open Lib (decDigits itoa hid)
open Go.RowKit
attribute [local go_sem ↓] Go.wp_at_zero Go.wp_at_succ
def d0 (u : Nat) : Nat := if u = 0 then 0 else d0 (u / 10) + 1
theorem qRb : d0 0 = 0 := by unfold d0; rfl
theorem d0_pos {u : Nat} (h : u ≠ 0) : d0 u = d0 (u / 10) + 1 := by rw [d0, if_neg h]
theorem d0_dec (u : Nat) : u ≠ 0 -> (decDigits u).length = d0 u := by
 induction u using Nat.strongRecOn with
 | _ u ih =>
  intro h
  rw [decDigits, d0_pos h]
  split
  · rename_i h1
    rw [show u / 10 = 0 by omega, qRb]
    rfl
  rename_i h1
  rw [length_append, ih (u / 10) (by omega) (by omega)]
  rfl
set_option maxRecDepth 100000 in
theorem qDk (i : Int) (w : World) (h : qAg .u64 i) : Calls prog 132 #[.int .u64 i] w fun e w' => e = .returned (.int .i64 (((decDigits (Int.toNat i))).length : Int)) /\ w' = w := by
 obtain ⟨u, rfl⟩ : ∃ u : Nat, i = u := ⟨i.toNat, by have := (qM5 h).1; omega⟩
 have hu : u < 18446744073709551616 := by have := (qM5 h).2; omega
 rw [Int.toNat_natCast]
 by_cases h0 : u = 0
 · subst h0
   go_enter func132, ntmps132
   go_wp2
   go_ret
   have e : (decDigits 0).length = 1 := by rw [Lib.decDigits_length, Lib.nDigits_small (by omega)]
   exact ⟨by rw [e]; rfl, rfl⟩
 rw [d0_dec u h0]
 have hd : d0 u <= 20 := by
  rw [<- d0_dec u h0]
  have := qFh h
  rw [qAy, Int.toNat_natCast] at this
  omega
 go_enter func132, ntmps132
 go_wp2
 go_loop [0, 2] (fun i c => ∃ v k : Nat, i = .int .u64 v /\ c = .int .i64 k /\ k + d0 v = d0 u /\ v < 18446744073709551616) (fun i _ => (intOf i).toNat)
 case atStart => exact ⟨u, 0, rfl, rfl, by omega, hu⟩
 obtain ⟨v, k, rfl, rfl, hk, hv⟩ := hrel
 by_cases hv0 : v = 0
 · subst hv0
   rw [qRb, Nat.add_zero] at hk
   subst hk
   go_wp2
   go_ret
   exact ⟨rfl, rfl⟩
 have hd0 := d0_pos hv0
 have b1 : ¬ (v : Int) = 0 := by omega
 have b2 : ((v : Int) != 0) = true := by simp; omega
 have hk2 : k + 1 <= 20 := by omega
 go_wp2
 exact ⟨⟨v / 10, k + 1, by go_num, by go_num, by omega, by omega⟩, by simp [intOf]; omega⟩
theorem i64_in {n : Int} (h : qAg .i64 n) : -9223372036854775808 <= n /\ n <= 9223372036854775807 := by
 have e1 : (IntKind.min .i64 : Int) = -9223372036854775808 := by decide
 have e2 : (IntKind.max .i64 : Int) = 9223372036854775807 := by decide
 have h1 := h.1
 have h2 := h.2
 rw [e1] at h1
 rw [e2] at h2
 exact ⟨h1, h2⟩
set_option maxRecDepth 100000 in
theorem qHx (i : Int) (w : World) (h : qAg .i64 i) : Calls prog 131 #[.int .i64 i] w fun e w' => e = .returned (.int .i64 (((itoa i)).length : Int)) /\ w' = w := by
 obtain ⟨h1, h2⟩ := i64_in h
 unfold itoa
 by_cases h0 : i < 0
 · rw [if_pos h0]
   have hw : IntKind.wrap .u64 (wrap64 (-i)) = (i.natAbs : Int) := by
    have e : IntKind.wrap .u64 (wrap64 (-i)) = (wrap64 (-i)) % 18446744073709551616 := by
     unfold IntKind.wrap
     have : IntKind.signed .u64 = false := rfl
     simp only [this, Bool.false_and]
     rfl
    rw [e]
    unfold wrap64
    omega
   have hu : qAg .u64 (i.natAbs : Int) := by
    have e1 : (IntKind.min .u64 : Int) = 0 := by decide
    have e2 : (IntKind.max .u64 : Int) = 18446744073709551615 := by decide
    unfold qAg
    rw [e1, e2]
    omega
   have hd : (decDigits i.natAbs).length <= 20 := by
    have := qFh hu
    rw [qAy, Int.toNat_natCast] at this
    omega
   have HC := hid (qDk (i.natAbs : Int) w hu)
   rw [Int.toNat_natCast] at HC
   rw [length_cons]
   go_enter func131, ntmps131
   go_wp2_with (go_at_call 132; (try rw [hw]); (with_reducible refine HC.out.mono ?_); rintro r w1 ⟨rfl, hww⟩; have hww := hww.symm; subst hww)
   go_ret
   exact ⟨by go_num, rfl⟩
 rw [if_neg h0]
 have hu : qAg .u64 i := by
  have e1 : (IntKind.min .u64 : Int) = 0 := by decide
  have e2 : (IntKind.max .u64 : Int) = 18446744073709551615 := by decide
  unfold qAg
  rw [e1, e2]
  omega
 have HC := hid (qDk i w hu)
 go_enter func131, ntmps131
 go_wp2_with (go_at_call 132; (with_reducible refine HC.out.mono ?_); rintro r w1 ⟨rfl, hww⟩; have hww := hww.symm; subst hww)
 go_ret
 exact ⟨rfl, rfl⟩
theorem qB6 {n : Int} (h : -9223372036854775808 <= n /\ n <= 9223372036854775807) : IntKind.wrap .i64 n = n := by
 unfold IntKind.wrap
 have e1 : IntKind.signed .i64 = true := rfl
 have e2 : (2 ^ IntKind.bits .i64 : Int) = 18446744073709551616 := by decide
 have e3 : (2 ^ (IntKind.bits .i64 - 1) : Int) = 9223372036854775808 := by decide
 simp only [e1, e2, e3, Bool.true_and, decide_eq_true_eq]
 split <;> omega
def qBi (n : Nat) (w : World) (e : Ending) (w' : World) : Prop := e = .returned (.int .i64 (n : Int)) /\ Nw w w'
theorem qH2 {n : Int} (h : 0 <= n) (hw : qAg .i64 n) : (decDigits (Int.toNat n)) = (decDigits (Int.toNat (n % 18446744073709551616))) /\ qAg .u64 n := by
 have h2 := (i64_in hw).2
 have e1 : (IntKind.min .u64 : Int) = 0 := by decide
 have e2 : (IntKind.max .u64 : Int) = 18446744073709551615 := by decide
 refine ⟨by rw [Int.emod_eq_of_lt h (by omega)], ?_⟩
 unfold qAg
 rw [e1, e2]
 omega
theorem qEw {n : Int} (h : qAg .u64 n) : ((decDigits (Int.toNat n))).length <= 20 := by have := qFh h; rwa [qAy] at this
theorem qJp {n : Int} (h : qAg .i64 n) : ((itoa n)).length <= 21 := by
 obtain ⟨h1, h2⟩ := i64_in h
 have e1 : (IntKind.min .u64 : Int) = 0 := by decide
 have e2 : (IntKind.max .u64 : Int) = 18446744073709551615 := by decide
 unfold itoa
 split
 · have := qEw (n := (n.natAbs : Int)) (by unfold qAg; rw [e1, e2]; omega)
   rw [Int.toNat_natCast] at this
   rw [length_cons]
   omega
 have := qEw (n := n) (by unfold qAg; rw [e1, e2]; omega)
 omega
theorem sz_name (s : ByteArray) (w : World) : Calls prog 104 #[.string s] w (qBi (bs s).length w) := by
 go_enter func104, ntmps104
 go_wp2
 go_ret
 exact ⟨rfl, Nw.refl _⟩
theorem qRc (s : ByteArray) (w : World) : Calls prog 105 #[.string s] w (qBi (bs s).length w) := by
 go_enter func105, ntmps105
 go_wp2
 go_ret
 exact ⟨rfl, Nw.refl _⟩
theorem sz_mail (s : ByteArray) (w : World) : Calls prog 106 #[.string s] w (qBi (bs s).length w) := by
 go_enter func106, ntmps106
 go_wp2
 go_ret
 exact ⟨rfl, Nw.refl _⟩
theorem sz_phone (s : ByteArray) (w : World) : Calls prog 107 #[.string s] w (qBi (bs s).length w) := by
 go_enter func107, ntmps107
 go_wp2
 go_ret
 exact ⟨rfl, Nw.refl _⟩
theorem sz_key (s : ByteArray) (w : World) : Calls prog 113 #[.string s] w (qBi (bs s).length w) := by
 go_enter func113, ntmps113
 go_wp2
 go_ret
 exact ⟨rfl, Nw.refl _⟩
theorem sz_ver (i : Int) (w : World) (h : qAg .i64 i) : Calls prog 102 #[.int .i64 i] w (qBi ((itoa i)).length w) := by
 have HC := hid (qHx i w h)
 clear h
 go_enter func102, ntmps102
 go_wp2_with (go_at_call 131; (with_reducible refine HC.out.mono ?_); rintro r w1 ⟨rfl, hww⟩; have hww := hww.symm; subst hww)
 go_ret
 exact ⟨rfl, Nw.refl _⟩
set_option maxRecDepth 100000 in
theorem sz_tim (a b : Int) (w : World) (h1 : qAg .u64 a) (h2 : qAg .u64 b) : Calls prog 110 #[.agg #[.int .u64 a, .int .u64 b]] w (qBi ((decDigits (Int.toNat a)) ++ (32 :: (decDigits (Int.toNat b)))).length w) := by
 obtain ⟨g, hgg⟩ : ∃ g, g = w.heap.size := ⟨_, rfl⟩
 obtain ⟨w0, hw0⟩ : ∃ w0, w0 = w.alloc (.cells #[.int .u64 a, .int .u64 b] 174) := ⟨_, rfl⟩
 have q0 : Nw w w0 := by rw [hw0]; exact (Nw.refl w).alloc _
 have H0 : Blk w0 g [.int .u64 a, .int .u64 b] 174 := by rw [hw0, hgg]; exact Blk.made w _ 174
 have c0 := H0.cell 0 rfl
 have c1 := H0.cell 1 rfl
 obtain ⟨na, hna⟩ : ∃ m0 : Nat, m0 = ((decDigits (Int.toNat a))).length := ⟨_, rfl⟩
 have lna : na <= 21 := by rw [hna]; have := qEw h1; omega
 have Ana := hid (fun w => qDk (a) w h1)
 rw [<- hna] at Ana
 obtain ⟨nb, hnb⟩ : ∃ m0 : Nat, m0 = ((decDigits (Int.toNat b))).length := ⟨_, rfl⟩
 have lnb : nb <= 21 := by rw [hnb]; have := qEw h2; omega
 have Anb := hid (fun w => qDk (b) w h2)
 rw [<- hnb] at Anb
 rw [show ((decDigits (Int.toNat a)) ++ (32 :: (decDigits (Int.toNat b)))).length = na + 1 + nb by rw [hna, hnb]; simp only [length_append, length_cons]; omega]
 clear hna hnb
 go_enter func110, ntmps110
 go_upto_region 1 with fail
 rw [<- hw0, <- hgg]
 clear hw0 hgg
 go_region_held3 (fun w' => w'.cell? ⟨g, 0, none⟩ = some (.int .u64 a) /\ w'.cell? ⟨g, 1, none⟩ = some (.int .u64 b)) (first | exact ⟨c0, c1⟩ | go_keep) (first | (go_at_call 132; (with_reducible refine (Ana.out _).mono ?_); rintro r w1 ⟨rfl, hww⟩; have hww := hww.symm; subst hww) | (go_at_call 132; (with_reducible refine (Anb.out _).mono ?_); rintro r w1 ⟨rfl, hww⟩; have hww := hww.symm; subst hww))
 all_goals (go_wp2; go_ret; (refine ⟨?_, q0.drew⟩; simp (disch := omega) only [qB6]; go_num))
set_option maxRecDepth 100000 in
theorem sz_zon (a b : Int) (w : World) (h1 : qAg .u64 a) (h2 : qAg .i64 b) : Calls prog 112 #[.agg #[.int .u64 a, .int .i64 b]] w (qBi ((decDigits (Int.toNat a)) ++ (32 :: (itoa b))).length w) := by
 obtain ⟨g, hgg⟩ : ∃ g, g = w.heap.size := ⟨_, rfl⟩
 obtain ⟨w0, hw0⟩ : ∃ w0, w0 = w.alloc (.cells #[.int .u64 a, .int .i64 b] 181) := ⟨_, rfl⟩
 have q0 : Nw w w0 := by rw [hw0]; exact (Nw.refl w).alloc _
 have H0 : Blk w0 g [.int .u64 a, .int .i64 b] 181 := by rw [hw0, hgg]; exact Blk.made w _ 181
 have c0 := H0.cell 0 rfl
 have c1 := H0.cell 1 rfl
 obtain ⟨na, hna⟩ : ∃ m0 : Nat, m0 = ((decDigits (Int.toNat a))).length := ⟨_, rfl⟩
 have lna : na <= 21 := by rw [hna]; have := qEw h1; omega
 have Ana := hid (fun w => qDk (a) w h1)
 rw [<- hna] at Ana
 obtain ⟨nb, hnb⟩ : ∃ m0 : Nat, m0 = ((itoa b)).length := ⟨_, rfl⟩
 have lnb : nb <= 21 := by rw [hnb]; have := qJp h2; omega
 have Anb := hid (fun w => qHx (b) w h2)
 rw [<- hnb] at Anb
 rw [show ((decDigits (Int.toNat a)) ++ (32 :: (itoa b))).length = na + 1 + nb by rw [hna, hnb]; simp only [length_append, length_cons]; omega]
 clear hna hnb
 go_enter func112, ntmps112
 go_upto_region 1 with fail
 rw [<- hw0, <- hgg]
 clear hw0 hgg
 go_region_held3 (fun w' => w'.cell? ⟨g, 0, none⟩ = some (.int .u64 a) /\ w'.cell? ⟨g, 1, none⟩ = some (.int .i64 b)) (first | exact ⟨c0, c1⟩ | go_keep) (first | (go_at_call 132; (with_reducible refine (Ana.out _).mono ?_); rintro r w1 ⟨rfl, hww⟩; have hww := hww.symm; subst hww) | (go_at_call 131; (with_reducible refine (Anb.out _).mono ?_); rintro r w1 ⟨rfl, hww⟩; have hww := hww.symm; subst hww))
 all_goals (go_wp2; go_ret; (refine ⟨?_, q0.drew⟩; simp (disch := omega) only [qB6]; go_num))
set_option maxRecDepth 100000 in
theorem sz_org (x : Org) (w : World) (h1 : qAg .u64 x.id) (h2 : qAg .u64 x.ver) (hl : (bs x.user ++ (32 :: ((decDigits (Int.toNat x.id)) ++ (32 :: ((decDigits (Int.toNat x.ver)) ++ (32 :: (bs x.net ++ (32 :: (bs x.addr ++ (32 :: bs x.adr)))))))))).length <= 1152921504606846976) : Calls prog 103 #[.agg #[.string x.user, .int .u64 x.id, .int .u64 x.ver, .string x.net, .string x.addr, .string x.adr]] w (qBi (bs x.user ++ (32 :: ((decDigits (Int.toNat x.id)) ++ (32 :: ((decDigits (Int.toNat x.ver)) ++ (32 :: (bs x.net ++ (32 :: (bs x.addr ++ (32 :: bs x.adr)))))))))).length w) := by
 obtain ⟨g, hgg⟩ : ∃ g, g = w.heap.size := ⟨_, rfl⟩
 obtain ⟨w0, hw0⟩ : ∃ w0, w0 = w.alloc (.cells #[.string x.user, .int .u64 x.id, .int .u64 x.ver, .string x.net, .string x.addr, .string x.adr] 101) := ⟨_, rfl⟩
 have q0 : Nw w w0 := by rw [hw0]; exact (Nw.refl w).alloc _
 have H0 : Blk w0 g [.string x.user, .int .u64 x.id, .int .u64 x.ver, .string x.net, .string x.addr, .string x.adr] 101 := by rw [hw0, hgg]; exact Blk.made w _ 101
 have c0 := H0.cell 0 rfl
 have c1 := H0.cell 1 rfl
 have c2 := H0.cell 2 rfl
 have c3 := H0.cell 3 rfl
 have c4 := H0.cell 4 rfl
 have c5 := H0.cell 5 rfl
 obtain ⟨na, hna⟩ : ∃ m0 : Nat, m0 = ((decDigits (Int.toNat x.id))).length := ⟨_, rfl⟩
 have lna : na <= 21 := by rw [hna]; have := qEw h1; omega
 have Ana := hid (fun w => qDk (x.id) w h1)
 rw [<- hna] at Ana
 obtain ⟨nb, hnb⟩ : ∃ m0 : Nat, m0 = ((decDigits (Int.toNat x.ver))).length := ⟨_, rfl⟩
 have lnb : nb <= 21 := by rw [hnb]; have := qEw h2; omega
 have Anb := hid (fun w => qDk (x.ver) w h2)
 rw [<- hnb] at Anb
 have he : (bs x.user ++ (32 :: ((decDigits (Int.toNat x.id)) ++ (32 :: ((decDigits (Int.toNat x.ver)) ++ (32 :: (bs x.net ++ (32 :: (bs x.addr ++ (32 :: bs x.adr)))))))))).length = x.user.size + na + nb + x.net.size + x.addr.size + x.adr.size + 5 := by rw [hna, hnb]; simp only [length_append, length_cons, qAf]; omega
 rw [he] at hl ⊢
 clear hna hnb he
 go_enter func103, ntmps103
 go_upto_region 1 with fail
 rw [<- hw0, <- hgg]
 clear hw0 hgg
 go_region_held3 (fun w' => w'.cell? ⟨g, 0, none⟩ = some (.string x.user) /\ w'.cell? ⟨g, 1, none⟩ = some (.int .u64 x.id) /\ w'.cell? ⟨g, 2, none⟩ = some (.int .u64 x.ver) /\ w'.cell? ⟨g, 3, none⟩ = some (.string x.net) /\ w'.cell? ⟨g, 4, none⟩ = some (.string x.addr) /\ w'.cell? ⟨g, 5, none⟩ = some (.string x.adr)) (first | exact ⟨c0, c1, c2, c3, c4, c5⟩ | go_keep) (first | (go_at_call 132; (with_reducible refine (Ana.out _).mono ?_); rintro r w1 ⟨rfl, hww⟩; have hww := hww.symm; subst hww) | (go_at_call 132; (with_reducible refine (Anb.out _).mono ?_); rintro r w1 ⟨rfl, hww⟩; have hww := hww.symm; subst hww))
 all_goals (go_wp2; go_ret; (refine ⟨?_, q0.drew⟩; simp (disch := omega) only [qB6]; go_num))
set_option maxRecDepth 100000 in
theorem qN0 (ty : ByteArray) (n : Int) (w : World) (h1 : qAg .u64 n) (hl : ([88, 45] ++ (bs ty ++ (58 :: (decDigits (Int.toNat n))))).length <= 1152921504606846976) : Calls prog 109 #[.agg #[.bool true, .string ty, .int .u64 n]] w (qBi ([88, 45] ++ (bs ty ++ (58 :: (decDigits (Int.toNat n))))).length w) := by
 obtain ⟨g, hgg⟩ : ∃ g, g = w.heap.size := ⟨_, rfl⟩
 obtain ⟨w0, hw0⟩ : ∃ w0, w0 = w.alloc (.cells #[.bool true, .string ty, .int .u64 n] 198) := ⟨_, rfl⟩
 have q0 : Nw w w0 := by rw [hw0]; exact (Nw.refl w).alloc _
 have H0 : Blk w0 g [.bool true, .string ty, .int .u64 n] 198 := by rw [hw0, hgg]; exact Blk.made w _ 198
 have c0 := H0.cell 0 rfl
 have c1 := H0.cell 1 rfl
 have c2 := H0.cell 2 rfl
 obtain ⟨na, hna⟩ : ∃ m0 : Nat, m0 = ((decDigits (Int.toNat n))).length := ⟨_, rfl⟩
 have lna : na <= 21 := by rw [hna]; have := qEw h1; omega
 have Ana := hid (fun w => qDk (n) w h1)
 rw [<- hna] at Ana
 have he : ([88, 45] ++ (bs ty ++ (58 :: (decDigits (Int.toNat n))))).length = ty.size + 1 + na + 2 := by rw [hna]; simp only [length_append, length_cons, List.length_nil, qAf]; omega
 rw [he] at hl ⊢
 clear hna he
 go_enter func109, ntmps109
 go_upto_region 1 with fail
 rw [<- hw0, <- hgg]
 clear hw0 hgg
 go_upto_region 3 with fail
 go_region_held3 (fun w' => w'.cell? ⟨g, 1, none⟩ = some (.string ty) /\ w'.cell? ⟨g, 2, none⟩ = some (.int .u64 n)) (first | exact ⟨c1, c2⟩ | go_keep) (first | (go_at_call 132; (with_reducible refine (Ana.out _).mono ?_); rintro r w1 ⟨rfl, hww⟩; have hww := hww.symm; subst hww))
 all_goals (go_wp2; go_ret; (refine ⟨?_, q0.drew⟩; simp (disch := omega) only [qB6]; go_num))
set_option maxRecDepth 100000 in
theorem qL9 (ty : ByteArray) (n : Int) (w : World) (h1 : qAg .u64 n) (hl : (bs ty ++ (58 :: (decDigits (Int.toNat n)))).length <= 1152921504606846976) : Calls prog 109 #[.agg #[.bool false, .string ty, .int .u64 n]] w (qBi (bs ty ++ (58 :: (decDigits (Int.toNat n)))).length w) := by
 obtain ⟨g, hgg⟩ : ∃ g, g = w.heap.size := ⟨_, rfl⟩
 obtain ⟨w0, hw0⟩ : ∃ w0, w0 = w.alloc (.cells #[.bool false, .string ty, .int .u64 n] 198) := ⟨_, rfl⟩
 have q0 : Nw w w0 := by rw [hw0]; exact (Nw.refl w).alloc _
 have H0 : Blk w0 g [.bool false, .string ty, .int .u64 n] 198 := by rw [hw0, hgg]; exact Blk.made w _ 198
 have c0 := H0.cell 0 rfl
 have c1 := H0.cell 1 rfl
 have c2 := H0.cell 2 rfl
 obtain ⟨na, hna⟩ : ∃ m0 : Nat, m0 = ((decDigits (Int.toNat n))).length := ⟨_, rfl⟩
 have lna : na <= 21 := by rw [hna]; have := qEw h1; omega
 have Ana := hid (fun w => qDk (n) w h1)
 rw [<- hna] at Ana
 have he : (bs ty ++ (58 :: (decDigits (Int.toNat n)))).length = ty.size + 1 + na := by rw [hna]; simp only [length_append, length_cons, List.length_nil, qAf]; omega
 rw [he] at hl ⊢
 clear hna he
 go_enter func109, ntmps109
 go_upto_region 1 with fail
 rw [<- hw0, <- hgg]
 clear hw0 hgg
 go_upto_region 3 with fail
 go_region_held3 (fun w' => w'.cell? ⟨g, 1, none⟩ = some (.string ty) /\ w'.cell? ⟨g, 2, none⟩ = some (.int .u64 n)) (first | exact ⟨c1, c2⟩ | go_keep) (first | (go_at_call 132; (with_reducible refine (Ana.out _).mono ?_); rintro r w1 ⟨rfl, hww⟩; have hww := hww.symm; subst hww))
 all_goals (go_wp2; go_ret; (refine ⟨?_, q0.drew⟩; simp (disch := omega) only [qB6]; go_num))
theorem sz_bw (x : Bwd) (w : World) (h1 : qAg .u64 x.n) (hl : (qF8 x).length <= 1152921504606846976) : Calls prog 109 #[.agg #[.bool x.x, .string x.ty, .int .u64 x.n]] w (qBi (qF8 x).length w) := by
 obtain ⟨b, ty, n⟩ := x
 unfold qF8 at hl ⊢
 cases b
 · exact qL9 ty n w h1 (by simpa using hl)
 exact qN0 ty n w h1 (by simpa using hl)
set_option maxRecDepth 100000 in
theorem sz_att (x : Att) (w : World) (hl : (qC1 x).length <= 1152921504606846976) : Calls prog 114 #[.agg #[.string x.key, .string x.val]] w (qBi (qC1 x).length w) := by
 by_cases hv : x.val.size = 0
 · have ht : qC1 x = bs x.key := by simp [qC1, hv]
   have hv2 : ¬ (0 : Int) < (x.val.size : Int) := by omega
   have he : (bs x.key).length = x.key.size := by simp only [length_append, length_cons, qAf]; try omega
   rw [ht, he] at hl ⊢
   clear ht he hv
   obtain ⟨g, hgg⟩ : ∃ g, g = w.heap.size := ⟨_, rfl⟩
   obtain ⟨w0, hw0⟩ : ∃ w0, w0 = w.alloc (.cells #[.string x.key, .string x.val] 199) := ⟨_, rfl⟩
   have q0 : Nw w w0 := by rw [hw0]; exact (Nw.refl w).alloc _
   have H0 : Blk w0 g [.string x.key, .string x.val] 199 := by rw [hw0, hgg]; exact Blk.made w _ 199
   have c0 := H0.cell 0 rfl
   have c1 := H0.cell 1 rfl
   go_enter func114, ntmps114
   go_upto_region 1 with fail
   rw [<- hw0, <- hgg]
   clear hw0 hgg
   go_wp2
   go_ret
   (refine ⟨?_, q0⟩; simp (disch := omega) only [qB6]; go_num)
 have ht : qC1 x = bs x.key ++ (58 :: bs x.val) := by simp [qC1, hv]
 have hv2 : (0 : Int) < (x.val.size : Int) := by omega
 have he : (bs x.key ++ (58 :: bs x.val)).length = x.key.size + (1 + x.val.size) := by simp only [length_append, length_cons, qAf]; try omega
 rw [ht, he] at hl ⊢
 clear ht he hv
 obtain ⟨g, hgg⟩ : ∃ g, g = w.heap.size := ⟨_, rfl⟩
 obtain ⟨w0, hw0⟩ : ∃ w0, w0 = w.alloc (.cells #[.string x.key, .string x.val] 199) := ⟨_, rfl⟩
 have q0 : Nw w w0 := by rw [hw0]; exact (Nw.refl w).alloc _
 have H0 : Blk w0 g [.string x.key, .string x.val] 199 := by rw [hw0, hgg]; exact Blk.made w _ 199
 have c0 := H0.cell 0 rfl
 have c1 := H0.cell 1 rfl
 go_enter func114, ntmps114
 go_upto_region 1 with fail
 rw [<- hw0, <- hgg]
 clear hw0 hgg
 go_wp2
 go_ret
 (refine ⟨?_, q0⟩; simp (disch := omega) only [qB6]; go_num)
set_option maxRecDepth 100000 in
theorem sz_adr (x : Adr) (p1 p2 : Value) (wd w : World) (h1 : tyI.Pt wd x.ttl p1) (h2 : tyI.Pt wd x.rng p2) (hd : Nw wd w) (hz : ∀ n ∈ x.ttl ++ x.rng, 0 <= n) (hl : (bs x.addr ++ qAx (x.ttl ++ x.rng)).length <= 1152921504606846976) :
 Calls prog 133 #[.agg #[.string x.addr, p1, p2]] w (qBi (bs x.addr ++ qAx (x.ttl ++ x.rng)).length w) := by
 rcases h1 with ⟨e1, rfl⟩ | ⟨t1, b1, e1, rfl, h1⟩
 · rcases h2 with ⟨e2, rfl⟩ | ⟨t2, b2, e2, rfl, h2⟩
   · have ht : bs x.addr ++ qAx (x.ttl ++ x.rng) = bs x.addr := by simp [qAx, e1, e2]
     have he : (bs x.addr).length = x.addr.size := by
      simp only [length_append, length_cons, qAf]
      try omega
     rw [ht, he] at hl ⊢
     clear ht he hz
     obtain ⟨g, hgg⟩ : ∃ g, g = w.heap.size := ⟨_, rfl⟩
     obtain ⟨w0, hw0⟩ : ∃ w0, w0 = w.alloc (.cells #[.string x.addr, .pointer none, .pointer none] 217) := ⟨_, rfl⟩
     have q0 : Nw w w0 := by rw [hw0]; exact (Nw.refl w).alloc _
     have H0 : Blk w0 g [.string x.addr, .pointer none, .pointer none] 217 := by rw [hw0, hgg]; exact Blk.made w _ 217
     have c0 := H0.cell 0 rfl
     have c1 := H0.cell 1 rfl
     have c2 := H0.cell 2 rfl
     go_enter func133, ntmps133
     go_upto_region 1 with fail
     rw [<- hw0, <- hgg]
     clear hw0 hgg
     go_wp2
     go_ret
     (refine ⟨?_, q0⟩; simp (disch := omega) only [qB6]; go_num)
   obtain ⟨d2, f2⟩ := qG5 h2
   have zt2 := hz t2 (by simp [e2])
   obtain ⟨gt2, ut2⟩ := qH2 zt2 f2
   have yt2 := (i64_in f2).2
   have xt2 : ¬ t2 < 0 := by omega
   have ht : bs x.addr ++ qAx (x.ttl ++ x.rng) = bs x.addr ++ (47 :: (decDigits (Int.toNat (t2 % 18446744073709551616)))) := by simp [qAx, e1, e2]
   obtain ⟨nb, hnb⟩ : ∃ m0 : Nat, m0 = ((decDigits (Int.toNat t2))).length := ⟨_, rfl⟩
   have lnb : nb <= 21 := by rw [hnb]; have := qEw ut2; omega
   have Anb := hid (fun w => qDk (t2) w ut2)
   rw [<- hnb] at Anb
   have he : (bs x.addr ++ (47 :: (decDigits (Int.toNat (t2 % 18446744073709551616))))).length = x.addr.size + (1 + nb) := by
    simp only [length_append, length_cons, qAf, <- gt2, <- hnb]
    try omega
   rw [ht, he] at hl ⊢
   clear ht he hz hnb
   obtain ⟨g, hgg⟩ : ∃ g, g = w.heap.size := ⟨_, rfl⟩
   obtain ⟨w0, hw0⟩ : ∃ w0, w0 = w.alloc (.cells #[.string x.addr, .pointer none, .pointer (some ⟨b2, 0, none⟩)] 217) := ⟨_, rfl⟩
   have q0 : Nw w w0 := by rw [hw0]; exact (Nw.refl w).alloc _
   have H0 : Blk w0 g [.string x.addr, .pointer none, .pointer (some ⟨b2, 0, none⟩)] 217 := by rw [hw0, hgg]; exact Blk.made w _ 217
   have c0 := H0.cell 0 rfl
   have c1 := H0.cell 1 rfl
   have c2 := H0.cell 2 rfl
   have d2 := (hd.trans q0).cell d2
   go_enter func133, ntmps133
   go_upto_region 1 with fail
   rw [<- hw0, <- hgg]
   clear hw0 hgg
   go_wp2_with (first | (go_at_call 132; (with_reducible refine (Anb.out _).mono ?_); rintro r w1 ⟨rfl, hww⟩; have hww := hww.symm; subst hww))
   go_ret
   (refine ⟨?_, q0⟩; simp (disch := omega) only [qB6]; go_num)
 rcases h2 with ⟨e2, rfl⟩ | ⟨t2, b2, e2, rfl, h2⟩
 · obtain ⟨d1, f1⟩ := qG5 h1
   have zt1 := hz t1 (by simp [e1])
   obtain ⟨gt1, ut1⟩ := qH2 zt1 f1
   have yt1 := (i64_in f1).2
   have xt1 : ¬ t1 < 0 := by omega
   have ht : bs x.addr ++ qAx (x.ttl ++ x.rng) = bs x.addr ++ (47 :: (decDigits (Int.toNat (t1 % 18446744073709551616)))) := by simp [qAx, e1, e2]
   obtain ⟨na, hna⟩ : ∃ m0 : Nat, m0 = ((decDigits (Int.toNat t1))).length := ⟨_, rfl⟩
   have lna : na <= 21 := by rw [hna]; have := qEw ut1; omega
   have Ana := hid (fun w => qDk (t1) w ut1)
   rw [<- hna] at Ana
   have he : (bs x.addr ++ (47 :: (decDigits (Int.toNat (t1 % 18446744073709551616))))).length = x.addr.size + (1 + na) := by
    simp only [length_append, length_cons, qAf, <- gt1, <- hna]
    try omega
   rw [ht, he] at hl ⊢
   clear ht he hz hna
   obtain ⟨g, hgg⟩ : ∃ g, g = w.heap.size := ⟨_, rfl⟩
   obtain ⟨w0, hw0⟩ : ∃ w0, w0 = w.alloc (.cells #[.string x.addr, .pointer (some ⟨b1, 0, none⟩), .pointer none] 217) := ⟨_, rfl⟩
   have q0 : Nw w w0 := by rw [hw0]; exact (Nw.refl w).alloc _
   have H0 : Blk w0 g [.string x.addr, .pointer (some ⟨b1, 0, none⟩), .pointer none] 217 := by rw [hw0, hgg]; exact Blk.made w _ 217
   have c0 := H0.cell 0 rfl
   have c1 := H0.cell 1 rfl
   have c2 := H0.cell 2 rfl
   have d1 := (hd.trans q0).cell d1
   go_enter func133, ntmps133
   go_upto_region 1 with fail
   rw [<- hw0, <- hgg]
   clear hw0 hgg
   go_wp2_with (first | (go_at_call 132; (with_reducible refine (Ana.out _).mono ?_); rintro r w1 ⟨rfl, hww⟩; have hww := hww.symm; subst hww))
   go_ret
   (refine ⟨?_, q0⟩; simp (disch := omega) only [qB6]; go_num)
 obtain ⟨d1, f1⟩ := qG5 h1
 have zt1 := hz t1 (by simp [e1])
 obtain ⟨gt1, ut1⟩ := qH2 zt1 f1
 have yt1 := (i64_in f1).2
 have xt1 : ¬ t1 < 0 := by omega
 obtain ⟨d2, f2⟩ := qG5 h2
 have zt2 := hz t2 (by simp [e2])
 obtain ⟨gt2, ut2⟩ := qH2 zt2 f2
 have yt2 := (i64_in f2).2
 have xt2 : ¬ t2 < 0 := by omega
 have ht : bs x.addr ++ qAx (x.ttl ++ x.rng) = bs x.addr ++ (47 :: (decDigits (Int.toNat (t1 % 18446744073709551616)))) ++ (47 :: (decDigits (Int.toNat (t2 % 18446744073709551616)))) := by simp [qAx, e1, e2]
 obtain ⟨na, hna⟩ : ∃ m0 : Nat, m0 = ((decDigits (Int.toNat t1))).length := ⟨_, rfl⟩
 have lna : na <= 21 := by rw [hna]; have := qEw ut1; omega
 have Ana := hid (fun w => qDk (t1) w ut1)
 rw [<- hna] at Ana
 obtain ⟨nb, hnb⟩ : ∃ m0 : Nat, m0 = ((decDigits (Int.toNat t2))).length := ⟨_, rfl⟩
 have lnb : nb <= 21 := by rw [hnb]; have := qEw ut2; omega
 have Anb := hid (fun w => qDk (t2) w ut2)
 rw [<- hnb] at Anb
 have he : (bs x.addr ++ (47 :: (decDigits (Int.toNat (t1 % 18446744073709551616)))) ++ (47 :: (decDigits (Int.toNat (t2 % 18446744073709551616))))).length = x.addr.size + (1 + na) + (1 + nb) := by
  simp only [length_append, length_cons, qAf, <- gt1, <- hna, <- gt2, <- hnb]
  try omega
 rw [ht, he] at hl ⊢
 clear ht he hz hna hnb
 obtain ⟨g, hgg⟩ : ∃ g, g = w.heap.size := ⟨_, rfl⟩
 obtain ⟨w0, hw0⟩ : ∃ w0, w0 = w.alloc (.cells #[.string x.addr, .pointer (some ⟨b1, 0, none⟩), .pointer (some ⟨b2, 0, none⟩)] 217) := ⟨_, rfl⟩
 have q0 : Nw w w0 := by rw [hw0]; exact (Nw.refl w).alloc _
 have H0 : Blk w0 g [.string x.addr, .pointer (some ⟨b1, 0, none⟩), .pointer (some ⟨b2, 0, none⟩)] 217 := by rw [hw0, hgg]; exact Blk.made w _ 217
 have c0 := H0.cell 0 rfl
 have c1 := H0.cell 1 rfl
 have c2 := H0.cell 2 rfl
 have d1 := (hd.trans q0).cell d1
 have d2 := (hd.trans q0).cell d2
 go_enter func133, ntmps133
 go_upto_region 1 with fail
 rw [<- hw0, <- hgg]
 clear hw0 hgg
 go_wp2_with (first | (go_at_call 132; (with_reducible refine (Ana.out _).mono ?_); rintro r w1 ⟨rfl, hww⟩; have hww := hww.symm; subst hww) | (go_at_call 132; (with_reducible refine (Anb.out _).mono ?_); rintro r w1 ⟨rfl, hww⟩; have hww := hww.symm; subst hww))
 go_ret
 (refine ⟨?_, q0⟩; simp (disch := omega) only [qB6]; go_num)
set_option maxRecDepth 100000 in
theorem sz_con (x : Con) (p1 : Value) (wd w : World) (h1 : qHq.Pt wd x.adrs p1) (hd : Nw wd w) (hz : ∀ a ∈ x.adrs, ∀ n ∈ a.ttl ++ a.rng, 0 <= n) (hl : (qD7 x).length <= 1152921504606846976) :
 Calls prog 108 #[.agg #[.string x.net, .string x.addr, p1]] w (qBi (qD7 x).length w) := by
 rcases h1 with ⟨e1, rfl⟩ | ⟨y, b1, e1, rfl, h1⟩
 · have ht : qD7 x = bs x.net ++ (32 :: bs x.addr) := by simp [qD7, e1]
   have he : (bs x.net ++ (32 :: bs x.addr)).length = x.net.size + (1 + x.addr.size) := by simp only [length_append, length_cons, qAf]; omega
   rw [ht, he] at hl ⊢
   clear ht he hz
   obtain ⟨g, hgg⟩ : ∃ g, g = w.heap.size := ⟨_, rfl⟩
   obtain ⟨w0, hw0⟩ : ∃ w0, w0 = w.alloc (.cells #[.string x.net, .string x.addr, .pointer none] 215) := ⟨_, rfl⟩
   have q0 : Nw w w0 := by rw [hw0]; exact (Nw.refl w).alloc _
   have H0 : Blk w0 g [.string x.net, .string x.addr, .pointer none] 215 := by rw [hw0, hgg]; exact Blk.made w _ 215
   have c0 := H0.cell 0 rfl
   have c1 := H0.cell 1 rfl
   have c2 := H0.cell 2 rfl
   go_enter func108, ntmps108
   go_upto_region 1 with fail
   rw [<- hw0, <- hgg]
   clear hw0 hgg
   go_wp2
   go_ret
   (refine ⟨?_, q0⟩; simp (disch := omega) only [qB6]; go_num)
 have hzy := hz y (by rw [e1]; exact List.mem_cons_self)
 obtain ⟨cs, ⟨r1, r2, rfl, _, k1, k2⟩, hc⟩ := h1 0 y rfl
 have ht : qD7 x = bs x.net ++ (32 :: (bs x.addr ++ (32 :: (bs y.addr ++ qAx (y.ttl ++ y.rng))))) := by simp [qD7, qKa, e1]
 have he : (bs x.net ++ (32 :: (bs x.addr ++ (32 :: (bs y.addr ++ qAx (y.ttl ++ y.rng)))))).length = x.net.size + (1 + x.addr.size) + (1 + (bs y.addr ++ qAx (y.ttl ++ y.rng)).length) := by simp only [length_append, length_cons, qAf]; omega
 rw [ht, he] at hl ⊢
 clear ht he hz
 obtain ⟨g, hgg⟩ : ∃ g, g = w.heap.size := ⟨_, rfl⟩
 obtain ⟨w0, hw0⟩ : ∃ w0, w0 = w.alloc (.cells #[.string x.net, .string x.addr, .pointer (some ⟨b1, 0, none⟩)] 215) := ⟨_, rfl⟩
 have q0 : Nw w w0 := by rw [hw0]; exact (Nw.refl w).alloc _
 have H0 : Blk w0 g [.string x.net, .string x.addr, .pointer (some ⟨b1, 0, none⟩)] 215 := by rw [hw0, hgg]; exact Blk.made w _ 215
 have c0 := H0.cell 0 rfl
 have c1 := H0.cell 1 rfl
 have c2 := H0.cell 2 rfl
 have A := hid (fun w4 (q : Nw wd w4) => sz_adr y r1 r2 wd w4 k1 k2 q hzy (by omega))
 have hq := hd.trans q0
 have m0 : w0.cell? ⟨b1, 0, none⟩ = some (.string y.addr) := hq.cell (hc 0 _ rfl)
 have m1 : w0.cell? ⟨b1, 1, none⟩ = some r1 := hq.cell (hc 1 _ rfl)
 have m2 : w0.cell? ⟨b1, 2, none⟩ = some r2 := hq.cell (hc 2 _ rfl)
 obtain ⟨na, hna⟩ : ∃ m0 : Nat, m0 = (bs y.addr ++ qAx (y.ttl ++ y.rng)).length := ⟨_, rfl⟩
 rw [<- hna] at A hl ⊢
 clear hc hna hzy
 go_enter func108, ntmps108
 go_upto_region 1 with fail
 rw [<- hw0, <- hgg]
 clear hw0 hgg
 go_wp2_with (go_at_call 133; (with_reducible refine (A.out _ hq).mono ?_); rintro r w1 ⟨rfl, hk⟩)
 go_ret
 (refine ⟨?_, (q0.trans hk)⟩; simp (disch := omega) only [qB6]; go_num)
set_option maxRecDepth 100000 in
theorem sz_port (p : Int) (ps : List Int) (p1 : Value) (wd w : World) (h1 : tyI.Pt wd ps p1) (hd : Nw wd w) (hw : qAg .i64 p) (hp : 0 <= p) (hz : ∀ n ∈ ps, 0 <= n) :
 Calls prog 135 #[.agg #[.int .i64 p, p1]] w (qBi ((decDigits (Int.toNat (p % 18446744073709551616))) ++ qAx ps).length w) := by
 have g1 := qEf hp hw
 rcases h1 with ⟨e1, rfl⟩ | ⟨y, b1, e1, rfl, h1⟩
 · obtain ⟨na, hna⟩ : ∃ m0 : Nat, m0 = ((itoa p)).length := ⟨_, rfl⟩
   have lna : na <= 21 := by rw [hna]; have := qJp hw; omega
   have Ana := hid (fun w => qHx (p) w hw)
   rw [<- hna] at Ana
   have ht : (decDigits (Int.toNat (p % 18446744073709551616))) ++ qAx ps = (decDigits (Int.toNat (p % 18446744073709551616))) := by simp [qAx, e1]
   have he : ((decDigits (Int.toNat (p % 18446744073709551616)))).length = na := by
    rw [<- g1]
    simp only [length_append, length_cons, <- hna]
    try omega
   rw [ht, he]
   clear ht he hz hna
   obtain ⟨g, hgg⟩ : ∃ g, g = w.heap.size := ⟨_, rfl⟩
   obtain ⟨w0, hw0⟩ : ∃ w0, w0 = w.alloc (.cells #[.int .i64 p, .pointer none] 202) := ⟨_, rfl⟩
   have q0 : Nw w w0 := by rw [hw0]; exact (Nw.refl w).alloc _
   have H0 : Blk w0 g [.int .i64 p, .pointer none] 202 := by rw [hw0, hgg]; exact Blk.made w _ 202
   have c0 := H0.cell 0 rfl
   have c1 := H0.cell 1 rfl
   go_enter func135, ntmps135
   go_upto_region 1 with fail
   rw [<- hw0, <- hgg]
   clear hw0 hgg
   go_wp2_with (first | (go_at_call 131; (with_reducible refine (Ana.out _).mono ?_); rintro r w1 ⟨rfl, hww⟩; have hww := hww.symm; subst hww))
   go_ret
   (refine ⟨?_, q0⟩; simp (disch := omega) only [qB6]; go_num)
 obtain ⟨d1, f1⟩ := qG5 h1
 have g2 := qEf (hz y (by simp [e1])) f1
 obtain ⟨na, hna⟩ : ∃ m0 : Nat, m0 = ((itoa p)).length := ⟨_, rfl⟩
 have lna : na <= 21 := by rw [hna]; have := qJp hw; omega
 have Ana := hid (fun w => qHx (p) w hw)
 rw [<- hna] at Ana
 obtain ⟨nb, hnb⟩ : ∃ m0 : Nat, m0 = ((itoa y)).length := ⟨_, rfl⟩
 have lnb : nb <= 21 := by rw [hnb]; have := qJp f1; omega
 have Anb := hid (fun w => qHx (y) w f1)
 rw [<- hnb] at Anb
 have ht : (decDigits (Int.toNat (p % 18446744073709551616))) ++ qAx ps = (decDigits (Int.toNat (p % 18446744073709551616))) ++ (47 :: (decDigits (Int.toNat (y % 18446744073709551616)))) := by simp [qAx, e1]
 have he : ((decDigits (Int.toNat (p % 18446744073709551616))) ++ (47 :: (decDigits (Int.toNat (y % 18446744073709551616))))).length = na + (1 + nb) := by
  rw [<- g1, <- g2]
  simp only [length_append, length_cons, <- hna, <- hnb]
  try omega
 rw [ht, he]
 clear ht he hz hna hnb
 obtain ⟨g, hgg⟩ : ∃ g, g = w.heap.size := ⟨_, rfl⟩
 obtain ⟨w0, hw0⟩ : ∃ w0, w0 = w.alloc (.cells #[.int .i64 p, .pointer (some ⟨b1, 0, none⟩)] 202) := ⟨_, rfl⟩
 have q0 : Nw w w0 := by rw [hw0]; exact (Nw.refl w).alloc _
 have H0 : Blk w0 g [.int .i64 p, .pointer (some ⟨b1, 0, none⟩)] 202 := by rw [hw0, hgg]; exact Blk.made w _ 202
 have c0 := H0.cell 0 rfl
 have c1 := H0.cell 1 rfl
 have d1 := (hd.trans q0).cell d1
 go_enter func135, ntmps135
 go_upto_region 1 with fail
 rw [<- hw0, <- hgg]
 clear hw0 hgg
 go_wp2_with (first | (go_at_call 131; (with_reducible refine (Ana.out _).mono ?_); rintro r w1 ⟨rfl, hww⟩; have hww := hww.symm; subst hww) | (go_at_call 131; (with_reducible refine (Anb.out _).mono ?_); rintro r w1 ⟨rfl, hww⟩; have hww := hww.symm; subst hww))
 go_ret
 (refine ⟨?_, q0⟩; simp (disch := omega) only [qB6]; go_num)
end Go.Proofs.YtcepdjlknalmnaaGreatDoor

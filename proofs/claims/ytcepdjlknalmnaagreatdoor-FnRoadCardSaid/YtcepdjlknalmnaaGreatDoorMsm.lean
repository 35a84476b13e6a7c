/- How long repeats and media are told to be. Written by a small program of this claim's own (genmsm). -/
import Derived.Test.YtcepdjlknalmnaaGreatDoorMsz
import Derived.Test.YtcepdjlknalmnaaGreatDoorMrk
import Derived.Test.YtcepdjlknalmnaaGreatDoorZst
set_option linter.unusedSimpArgs false
set_option linter.unusedVariables false
namespace Go.Proofs.YtcepdjlknalmnaaGreatDoor
open Tryz
open Lib (itoa hid)
open Go.RowKit
attribute [local go_sem ↓] Go.wp_at_zero Go.wp_at_succ
set_option maxRecDepth 100000 in
theorem sz_rep (x : Rep) (p1 : Value) (wd w : World) (h1 : tyI.Sl wd x.offs p1) (hd : Nw wd w) (h2 : qAg .i64 x.ivl) (h3 : qAg .i64 x.dur) (hl : ((itoa x.ivl) ++ (32 :: ((itoa x.dur) ++ qBt x.offs))).length <= 1152921504606846976) :
 Calls prog 111 #[.agg #[.int .i64 x.ivl, .int .i64 x.dur, p1]] w (qBi ((itoa x.ivl) ++ (32 :: ((itoa x.dur) ++ qBt x.offs))).length w) := by
 obtain ⟨A, n, rfl⟩ := Ty.Sl_form h1
 have hm := h1.1
 obtain ⟨g, hgg⟩ : ∃ g, g = w.heap.size := ⟨_, rfl⟩
 obtain ⟨w0, hw0⟩ : ∃ w0, w0 = w.alloc (.cells #[.int .i64 x.ivl, .int .i64 x.dur, .slice A x.offs.length n] 178) := ⟨_, rfl⟩
 have q0 : Nw w w0 := by rw [hw0]; exact (Nw.refl w).alloc _
 have H0 : Blk w0 g [.int .i64 x.ivl, .int .i64 x.dur, .slice A x.offs.length n] 178 := by rw [hw0, hgg]; exact Blk.made w _ 178
 have c0 := H0.cell 0 rfl
 have c1 := H0.cell 1 rfl
 have c2 := H0.cell 2 rfl
 obtain ⟨na, hna⟩ : ∃ m0 : Nat, m0 = ((itoa x.ivl)).length := ⟨_, rfl⟩
 have lna : na <= 21 := by rw [hna]; have := qJp h2; omega
 have Ana := hid (fun w => qHx (x.ivl) w h2)
 rw [<- hna] at Ana
 obtain ⟨nb, hnb⟩ : ∃ m0 : Nat, m0 = ((itoa x.dur)).length := ⟨_, rfl⟩
 have lnb : nb <= 21 := by rw [hnb]; have := qJp h3; omega
 have Anb := hid (fun w => qHx (x.dur) w h3)
 rw [<- hnb] at Anb
 have he : ((itoa x.ivl) ++ (32 :: ((itoa x.dur) ++ qBt x.offs))).length = na + (1 + nb) + (qBt x.offs).length := by rw [hna, hnb]; simp only [List.length_append, List.length_cons]; omega
 rw [he] at hl ⊢
 clear hna hnb he
 go_enter func111, ntmps111
 go_upto_region 1 with fail
 rw [<- hw0, <- hgg]
 clear hw0 hgg
 go_upto_region 3 with (first | (go_at_call 131; (with_reducible refine (Ana.out _).mono ?_); rintro r w1 ⟨rfl, hww⟩; have hww := hww.symm; subst hww) | (go_at_call 131; (with_reducible refine (Anb.out _).mono ?_); rintro r w1 ⟨rfl, hww⟩; have hww := hww.symm; subst hww))
 go_wp2
 go_loop [2, 17] (fun s i => ∃ k : Nat, k <= x.offs.length /\ i = .int .i64 k /\ s = .int .i64 ((na + (1 + nb) + (qBt (x.offs.take k)).length : Nat) : Int)) (fun s i => x.offs.length - (intOf i).toNat)
 case atStart =>
  refine ⟨0, Nat.zero_le _, rfl, ?_⟩
  have e0 : (qBt (x.offs.take 0)).length = 0 := rfl
  rw [e0]
  try simp (disch := omega) only [qB6]
  go_num
 obtain ⟨k, hk, rfl, rfl⟩ := hrel
 by_cases hlt : k < x.offs.length
 · obtain ⟨b, o, rfl, ha⟩ := Ty.Sl_at h1 k hlt
   obtain ⟨cs, ⟨rfl, hwf⟩, hx⟩ := ha k _ (List.getElem?_eq_getElem hlt)
   have c9 := (hd.trans q0).cell (hx 0 _ rfl)
   simp only [tyI, qCn, Ty.flat, Nat.mul_one, Nat.add_zero] at c9
   have k1 : (0 : Int) <= (k : Int) := by omega
   have k2 : (k : Int) < (x.offs.length : Int) := by omega
   have k3 : (k : Int) <= (x.offs.length : Int) := by omega
   have hle := qLr x.offs (k + 1)
   have hsn := congrArg List.length (qLh hlt)
   simp only [List.length_append, List.length_cons] at hsn
   obtain ⟨nk, hnk⟩ : ∃ m0 : Nat, m0 = (qBt (x.offs.take k)).length := ⟨_, rfl⟩
   obtain ⟨nk1, hnk1⟩ : ∃ m0 : Nat, m0 = (qBt (x.offs.take (k + 1))).length := ⟨_, rfl⟩
   obtain ⟨ne, hne⟩ : ∃ m0 : Nat, m0 = ((itoa x.offs[k])).length := ⟨_, rfl⟩
   have AE := hid (fun w => qHx x.offs[k] w hwf)
   rw [<- hne] at AE
   rw [<- hnk, <- hne] at hsn
   rw [<- hnk1] at hsn hle
   rw [<- hnk]
   have HN1 := hid hnk1
   clear hx ha hnk hnk1 hne
   go_wp2_with (go_at_call 131; (with_reducible refine (AE.out _).mono ?_); rintro r w1 ⟨rfl, hww⟩; have hww := hww.symm; subst hww)
   refine ⟨⟨k + 1, by omega, by go_num, ?_⟩, by simp [intOf]; omega⟩
   rw [<- HN1.out]
   try simp (disch := omega) only [qB6]
   go_num
 rw [List.take_of_length_le (by omega)]
 go_wp2
 go_ret
 exact ⟨rfl, q0⟩
def qHg (xs : List ByteArray) : Nat := (xs.map (fun s => s.size + 1)).sum
theorem qRd {xs : List ByteArray} {k : Nat} (h : k < xs.length) : qHg (xs.take (k + 1)) = qHg (xs.take k) + (xs[k].size + 1) := by
 unfold qHg
 rw [qAt h, List.map_append, List.sum_append]
 rfl
theorem lsum_le (xs : List ByteArray) (k : Nat) : qHg (xs.take k) <= qHg xs := by
 conv => rhs; rw [<- List.take_append_drop k xs]
 unfold qHg
 rw [List.map_append, List.sum_append]
 omega
theorem qLk (s : UInt8) : ∀ (xs : List ByteArray), (xs.flatMap (fun y => [s] ++ bs y)).length = qHg xs
 | [] => rfl
 | y :: ys => by
  rw [List.flatMap_cons, List.length_append, qLk s ys]
  unfold qHg
  rw [List.map_cons, List.sum_cons]
  simp only [List.length_append, List.length_singleton, qAf]
  omega
theorem qLl (s : UInt8) : ∀ (xs : List ByteArray), xs ≠ [] -> (qAk [s] xs).length + 1 = qHg xs
 | [], h => absurd rfl h
 | x :: xs, _ => by
  simp only [qAk, List.length_append, qLk, qAf]
  unfold qHg
  rw [List.map_cons, List.sum_cons]
  omega
set_option maxRecDepth 100000 in
theorem qRe (xs : List ByteArray) (p : Value) (g n0 : Nat) (wd w : World) (h1 : qAd.Sl wd xs p) (hd : Nw wd w) (hG : Blk w g [.int .i64 n0] 3) (hwg : wd.heap.size <= g) (hl : n0 + qHg xs <= 1152921504606846976) :
 Calls prog 134 #[p, .pointer (some ⟨g, 0, none⟩)] w fun e w' => e = .returned (.tuple #[]) /\ Blk w' g [.int .i64 ((n0 + qHg xs : Nat) : Int)] 3 /\ Fr (fun k => k = g) w w' := by
 obtain ⟨A, n, rfl⟩ := Ty.Sl_form h1
 have hm := h1.1
 go_enter func134, ntmps134
 go_wp2
 go_loopw [7] (fun i wr => ∃ k : Nat, k <= xs.length /\ i = .int .i64 k /\ Blk wr g [.int .i64 ((n0 + qHg (xs.take k) : Nat) : Int)] 3 /\ Fr (fun k => k = g) w wr) (fun i _ => xs.length - (intOf i).toNat)
 case atStart => exact ⟨0, Nat.zero_le _, rfl, by simpa [qHg] using hG, Fr.refl _ _⟩
 obtain ⟨k, hk, rfl, hB, q0⟩ := hrel
 by_cases hlt : k < xs.length
 · obtain ⟨b, o, rfl, ha⟩ := Ty.Sl_at h1 k hlt
   obtain ⟨cs, ⟨rfl, hwf⟩, hx⟩ := ha k _ (List.getElem?_eq_getElem hlt)
   have c9 := (hd.frIn q0 (fun k e => by rw [e]; exact hwg)).cell (hx 0 _ rfl)
   simp only [qAd, Ty.flat, Nat.mul_one, Nat.add_zero] at c9
   have k1 : (0 : Int) <= (k : Int) := by omega
   have k2 : (k : Int) < (xs.length : Int) := by omega
   have k3 : (k : Int) <= (xs.length : Int) := by omega
   have hle := lsum_le xs (k + 1)
   have hsn := qRd hlt
   obtain ⟨nk, hnk⟩ : ∃ m0 : Nat, m0 = qHg (xs.take k) := ⟨_, rfl⟩
   obtain ⟨nk1, hnk1⟩ : ∃ m0 : Nat, m0 = qHg (xs.take (k + 1)) := ⟨_, rfl⟩
   rw [<- hnk, <- hnk1] at hsn
   rw [<- hnk1] at hle
   rw [<- hnk] at hB
   have HN1 := hid hnk1
   have g0 := hB.cell 0 rfl
   have f0 := hB.fz 0
   clear hx ha hnk hnk1
   go_wp2
   refine ⟨⟨k + 1, by omega, by go_num, ?_, q0.setCell (.inl rfl) _⟩, by simp [intOf]; omega⟩
   rw [<- HN1.out]
   try simp (disch := omega) only [qB6]
   have e : ((n0 : Int) + (nk : Int) + (1 + (xs[k].size : Int))) = ((n0 + nk1 : Nat) : Int) := by omega
   rw [e]
   exact hB.set 0 _
 rw [List.take_of_length_le (by omega)] at hB
 go_wp2
 exact ⟨rfl, _, results_none rfl _ _ _, rfl, hB, q0⟩
theorem qMa {fn : Func} {p : Tmp} (h : fn.results = #[.cell p 3]) (tmps : Array Value) (w : World) (g : Nat) (n : Int) (hp : tmps.getD p undef = .pointer (some ⟨g, 0, none⟩)) (hc : w.cell? ⟨g, 0, none⟩ = some (.int .i64 n)) :
 (results fn tmps).run prog w = .ok (.int .i64 n) w := by
 have hp' : tmps[p]?.getD undef = .pointer (some ⟨g, 0, none⟩) := by simpa using hp
 simp [results, h, hp', asAddr, go_sem, hc]
theorem qRf : ∀ args w, (callFunc 134 args).run prog w = .ok (.enter 134 args) w := enters_of func134 (by kernel_rfl) rfl
set_option maxRecDepth 100000 in
set_option maxHeartbeats 1000000 in
theorem sz_med (x : Med) (p0 p1 p2 : Value) (wd w : World) (h0 : tyI.Pt wd x.ports p0) (h1 : qAd.Sl wd x.protos p1) (h2 : qAd.Sl wd x.fmts p2) (hd : Nw wd w) (hw : qAg .i64 x.port) (hp : 0 <= x.port) (hz : ∀ n ∈ x.ports, 0 <= n) (hx1 : x.protos ≠ []) (hx2 : x.fmts ≠ [])
 (hl : (bs x.name ++ (32 :: (((Lib.decDigits (Int.toNat (x.port % 18446744073709551616))) ++ qAx x.ports) ++ (32 :: (qAk [47] x.protos ++ (32 :: qAk [32] x.fmts)))))).length <= 1152921504606846976) :
 Calls prog 115 #[.agg #[.string x.name, .int .i64 x.port, p0, p1, p2]] w (qBi (bs x.name ++ (32 :: (((Lib.decDigits (Int.toNat (x.port % 18446744073709551616))) ++ qAx x.ports) ++ (32 :: (qAk [47] x.protos ++ (32 :: qAk [32] x.fmts)))))).length w) := by
 have hmf : ∀ (fn : Fn) (first cap : Array Value) (w : World), (Instr.makeFunc fn first cap).run prog w = .ok (.func fn first cap) w := fun _ _ _ _ => rfl
 have hen := qRf
 have j1 := qLl 47 x.protos hx1
 have j2 := qLl 32 x.fmts hx2
 obtain ⟨np, hnp⟩ : ∃ m0 : Nat, m0 = ((Lib.decDigits (Int.toNat (x.port % 18446744073709551616))) ++ qAx x.ports).length := ⟨_, rfl⟩
 have he : (bs x.name ++ (32 :: (((Lib.decDigits (Int.toNat (x.port % 18446744073709551616))) ++ qAx x.ports) ++ (32 :: (qAk [47] x.protos ++ (32 :: qAk [32] x.fmts)))))).length = x.name.size + (1 + np) + qHg x.protos + qHg x.fmts := by
  rw [hnp]
  simp only [List.length_append, List.length_cons, qAf]
  omega
 rw [he] at hl ⊢
 have AP := hid (fun w4 (q : Nw wd w4) => sz_port x.port x.ports p0 wd w4 h0 q hw hp hz)
 rw [<- hnp] at AP
 clear he hnp j1 j2 hx1 hx2 hz
 obtain ⟨A1, n1, rfl⟩ := Ty.Sl_form h1
 obtain ⟨A2, n2, rfl⟩ := Ty.Sl_form h2
 obtain ⟨Ap, rfl⟩ := Ty.Pt_form h0
 obtain ⟨g, hgg⟩ : ∃ g, g = w.heap.size := ⟨_, rfl⟩
 obtain ⟨gm, hgm⟩ : ∃ g, g = w.heap.size + 1 := ⟨_, rfl⟩
 obtain ⟨w0, hw0⟩ : ∃ w0, w0 = (w.alloc (.cells #[.string x.name, .int .i64 x.port, .pointer Ap, .slice A1 x.protos.length n1, .slice A2 x.fmts.length n2] 204)).alloc (.cells #[.int .i64 0] 3) := ⟨_, rfl⟩
 have q0 : Nw w w0 := by rw [hw0]; exact ((Nw.refl w).alloc _).alloc _
 have H0 : Blk w0 g [.string x.name, .int .i64 x.port, .pointer Ap, .slice A1 x.protos.length n1, .slice A2 x.fmts.length n2] 204 := by rw [hw0, hgg]; exact (Blk.made w _ 204).alloc _
 have M0 : Blk w0 gm [.int .i64 0] 3 := by
  have := Blk.made (w.alloc (.cells #[.string x.name, .int .i64 x.port, .pointer Ap, .slice A1 x.protos.length n1, .slice A2 x.fmts.length n2] 204)) [.int .i64 0] 3
  rw [hw0, hgm]; simpa using this
 have hne : ¬ g = gm := by omega
 have hwg : w.heap.size <= gm := by omega
 have hdg : wd.heap.size <= gm := Nat.le_trans hd.size hwg
 have e0_0 := H0.cell 0 rfl; have e0_1 := H0.cell 1 rfl; have e0_2 := H0.cell 2 rfl; have e0_3 := H0.cell 3 rfl; have e0_4 := H0.cell 4 rfl
 have m0 := M0.cell 0 rfl
 have z0 := M0.fz 0
 go_enter func115, ntmps115
 go_upto_region 1 with fail
 rw [<- hgm, <- hw0, <- hgg]
 clear hw0 hgg hgm
 go_upto_region 3 with fail
 obtain ⟨w1, hw1⟩ : ∃ w1, w1 = w0.setCell ⟨gm, 0, none⟩ (.int .i64 (x.name.size : Int)) := ⟨_, rfl⟩
 have f1 : Fr (fun k => k = gm) w0 w1 := by rw [hw1]; exact (Fr.refl (fun k => k = gm) w0).setCell (.inl rfl) _
 have H1 : Blk w1 g [.string x.name, .int .i64 x.port, .pointer Ap, .slice A1 x.protos.length n1, .slice A2 x.fmts.length n2] 204 := H0.fr f1 hne
 have M1 : Blk w1 gm [.int .i64 (x.name.size : Int)] 3 := by rw [hw1]; exact M0.set 0 _
 have q1 : Nw w w1 := q0.frIn f1 (fun k e => by rw [e]; exact hwg)
 rw [<- hw1]
 clear hw1
 have e1_0 := H1.cell 0 rfl; have e1_1 := H1.cell 1 rfl; have e1_2 := H1.cell 2 rfl; have e1_3 := H1.cell 3 rfl; have e1_4 := H1.cell 4 rfl
 have m1 := M1.cell 0 rfl
 have z1 := M1.fz 0
 refine qAv 6 (fun w' => w'.cell? ⟨gm, 0, none⟩ = some (.int .i64 (x.name.size : Int)) /\ w'.cell? ⟨g, 1, none⟩ = some (.int .i64 x.port) /\ w'.cell? ⟨g, 2, none⟩ = some (.pointer Ap)) (by kernel_rfl) ⟨m1, e1_1, e1_2⟩ (fun hHeld => ?_)
 obtain ⟨y1, hy1⟩ : ∃ z, z = w1.drew := ⟨_, rfl⟩
 have qy : Nw w1 y1 := by rw [hy1]; exact (Nw.refl w1).drew
 rw [<- hy1] at hHeld ⊢
 clear hy1
 refine' tkZ 0 [6] (oi := ?o101) (v := ?v101) ?h101 (by kernel_rfl) ?q101 (Or.inl ⟨?w101, ?y101⟩) hHeld ?r101
 case h101 => rfl
 case q101 => exact fun _ _ _ h => h
 case w101 => rfl
 case y101 => (intro w hSw; go_simp; first | done | (with_reducible rfl))
 try simp only [sP]
 refine' tkZ 1 [6] (oi := ?o102) (v := ?v102) ?h102 (by kernel_rfl) ?q102 (Or.inl ⟨?w102, ?y102⟩) hHeld ?r102
 case h102 => rfl
 case q102 => exact fun _ _ _ h => h
 case w102 => rfl
 case y102 => (intro w hSw; go_simp; first | done | (with_reducible rfl))
 try simp only [sP]
 refine' tkZ 2 [6] (oi := ?o103) (v := ?v103) ?h103 (by kernel_rfl) ?q103 (Or.inl ⟨?w103, ?y103⟩) hHeld ?r103
 case h103 => rfl
 case q103 => exact fun _ _ _ h => h
 case w103 => rfl
 case y103 => (intro w hSw; go_simp; first | done | (with_reducible rfl))
 try simp only [sP]
 refine' qB9 3 (by kernel_rfl) rfl (by decide) (fun K hK => ?_)
 (go_simp; go_at_call 135; (with_reducible refine (AP.out _ (hd.trans (q1.trans qy))).mono ?_); rintro r y2 ⟨rfl, hk2⟩)
 have qy2 := qy.trans hk2
 have q2 := q1.trans qy2
 have H2 := H1.nw qy2
 have M2 := M1.nw qy2
 have m2 := M2.cell 0 rfl
 have z2 := M2.fz 0
 refine hK.out _ _ ?_ (fun hHeld => ?_)
 · exact ⟨m2, H2.cell 1 rfl, H2.cell 2 rfl⟩
 clear hK K
 try simp only [sP]
 refine' tkZ 4 [6] (oi := ?o104) (v := ?v104) ?h104 (by kernel_rfl) ?q104 (Or.inl ⟨?w104, ?y104⟩) hHeld ?r104
 case h104 => rfl
 case q104 => exact fun _ _ _ h => h
 case w104 => rfl
 case y104 => (intro w hSw; go_simp; first | done | (with_reducible rfl))
 try simp only [sP]
 refine' tkZ 5 [6] (oi := ?o105) (v := ?v105) ?h105 (by kernel_rfl) ?q105 (Or.inl ⟨?w105, ?y105⟩) hHeld ?r105
 case h105 => rfl
 case q105 => exact fun _ _ _ h => h
 case w105 => rfl
 case y105 => (intro w hSw; go_simp; first | done | (with_reducible rfl))
 try simp only [sP]
 refine' qBr (by kernel_rfl) rfl (by kernel_rfl) (fun K hK => ?_)
 go_simp
 refine hK.out _ _ ?_
 clear hK K
 go_upto_region 4 with fail
 obtain ⟨w4, hw4⟩ : ∃ w4, w4 = y2.setCell ⟨gm, 0, none⟩ (.int .i64 ((x.name.size + (1 + np) : Nat) : Int)) := ⟨_, rfl⟩
 have f4 : Fr (fun k => k = gm) y2 w4 := by rw [hw4]; exact (Fr.refl (fun k => k = gm) y2).setCell (.inl rfl) _
 have H4 : Blk w4 g [.string x.name, .int .i64 x.port, .pointer Ap, .slice A1 x.protos.length n1, .slice A2 x.fmts.length n2] 204 := H2.fr f4 hne
 have M4 : Blk w4 gm [.int .i64 ((x.name.size + (1 + np) : Nat) : Int)] 3 := by rw [hw4]; exact M2.set 0 _
 have q4 : Nw w w4 := q2.frIn f4 (fun k e => by rw [e]; exact hwg)
 simp (disch := omega) only [qB6]
 rw [show ((x.name.size : Int) + (1 + (np : Int))) = ((x.name.size + (1 + np) : Nat) : Int) by omega]
 rw [<- hw4]
 clear hw4
 have e4_0 := H4.cell 0 rfl; have e4_1 := H4.cell 1 rfl; have e4_2 := H4.cell 2 rfl; have e4_3 := H4.cell 3 rfl; have e4_4 := H4.cell 4 rfl
 have L1 := hid (qRe x.protos _ gm (x.name.size + (1 + np)) wd w4 h1 (hd.trans q4) M4 hdg (by omega))
 go_wp2_with (first
  | (go_at_call 134; (with_reducible refine L1.out.mono ?_); rintro r w5 ⟨rfl, M5, f5⟩; have q5 : Nw w w5 := q4.frIn f5 (fun k e => by rw [e]; exact hwg); have H5 := H4.fr f5 hne; have e5_0 := H5.cell 0 rfl; have e5_1 := H5.cell 1 rfl; have e5_2 := H5.cell 2 rfl; have e5_3 := H5.cell 3 rfl; have e5_4 := H5.cell 4 rfl; have L2 := hid (qRe x.fmts _ gm (x.name.size + (1 + np) + qHg x.protos) wd w5 h2 (hd.trans q5) M5 hdg (by omega)))
  | (go_at_call 134; (with_reducible refine L2.out.mono ?_); rintro r w6 ⟨rfl, M6, f6⟩; have q6 : Nw w w6 := q5.frIn f6 (fun k e => by rw [e]; exact hwg); have m6 := M6.cell 0 rfl; have z6 := M6.fz 0))
 have hM7 := M6.set 0 (.int .i64 ((x.name.size + (1 + np) + qHg x.protos + qHg x.fmts : Nat) : Int))
 rw [show ((x.name.size : Int) + (1 + (np : Int)) + (qHg x.protos : Int) + (qHg x.fmts : Int)) = ((x.name.size + (1 + np) + qHg x.protos + qHg x.fmts : Nat) : Int) by omega]
 have m7 := hM7.cell 0 rfl
 refine bodyPost_ret (v := .int .i64 ((x.name.size + (1 + np) + qHg x.protos + qHg x.fmts : Nat) : Int)) (qMa (fn := f115) rfl _ _ gm _ rfl m7) rfl ?_
 exact ⟨rfl, q6.frIn ((Fr.refl (fun k => k = gm) w6).setCell (.inl rfl) _) (fun k e => by rw [e]; exact hwg)⟩
end Go.Proofs.YtcepdjlknalmnaaGreatDoor

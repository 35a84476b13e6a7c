/- FnMarshal's walk. Written by a small program of this claim's own (genlmr). -/
import Derived.Test.YtcepdjlknalmnaaGreatDoorZwk
import Derived.Test.YtcepdjlknalmnaaGreatDoorImr
namespace Go.Proofs.YtcepdjlknalmnaaGreatDoor
open Go.RowKit
set_option linter.unusedSimpArgs false
set_option linter.unusedVariables false
theorem mr_text {x : Ssn} {w : World} {v0 v1 v2 v3 v4 v5 v6 v7 v8 v9 v10 : Value} (m : SsnAt w x v0 v1 v2 v3 v4 v5 v6 v7 v8 v9 v10) (hf : fitB1 x = true) (hp : proper x = true) : jt (lns x) = joinEnds [13, 10] (linesB x) := by
 unfold jt
 rw [lns_text x (lns_ok hp (ssn_fit m hf).1).2.2.2.2]
theorem mr_lines {x : Ssn} {w : World} {v0 v1 v2 v3 v4 v5 v6 v7 v8 v9 v10 : Value} (m : SsnAt w x v0 v1 v2 v3 v4 v5 v6 v7 v8 v9 v10) (hf : fitB1 x = true) (hp : proper x = true) (W : World) (B : Nat) (v : Value) (hr : RowS W B v (linesB x)) :
 Calls Tryz.prog 14 #[v, .string ⟨#[13, 10]⟩] W fun e w' => e = .returned (.string (mk (jt (lns x)))) ∧ w' = W := by
 have hj := join_fit m hf hp [13, 10] (by decide)
 have hj2 : (joinEnds [13, 10] (linesB x)).length ≤ strMax := by unfold strMax; omega
 rw [mr_text m hf hp]
 exact spec_Text (linesB x) v ⟨#[13, 10]⟩ W (RowS.sl hr (lns_bound m hf hp)) (by decide) hj2
attribute [local go_sem ↓] Go.wp_at_zero Go.wp_at_succ wp_store43 wp_store33 wp_load33 wp_load43
attribute [local go_sem] storeOk_row loadOk_row rowOf_drew rowIs_made rowIs_drew oneC_int oneC_string oneC_slice blockOf_ptr cellsOf_agg
set_option maxRecDepth 100000 in
set_option maxHeartbeats 4000000 in
theorem law_marshal (x : Ssn) (a : Addr) (w : World) (v0 v1 v2 v3 v4 v5 v6 v7 v8 v9 v10 : Value) (m : SsnAt w x v0 v1 v2 v3 v4 v5 v6 v7 v8 v9 v10) (hE : Eof w a) (hT : Lib.TabIs Tryz.prog w "internal/strconv.uint64pow10" .u64 Lib.pow10Tab) :
 Calls Tryz.prog 6 #[ssnVal x v0 v1 v2 v3 v4 v5 v6 v7 v8 v9 v10] w fun r w' => r = .returned (.bool true) ∧ Nw w w' := by
 unfold ssnVal
 obtain ⟨A0, n0, rfl⟩ := Ty.Sl_form m.info
 obtain ⟨A1, n1, rfl⟩ := Ty.Sl_form m.uri
 obtain ⟨A2, n2, rfl⟩ := Ty.Sl_form m.email
 obtain ⟨A3, n3, rfl⟩ := Ty.Sl_form m.phone
 obtain ⟨A4, n4, rfl⟩ := Ty.Sl_form m.conn
 obtain ⟨A5, n5, rfl⟩ := Ty.Sl_form m.bws
 obtain ⟨A6, n6, rfl⟩ := Ty.Sl_form m.times
 obtain ⟨A7, n7, rfl⟩ := Ty.Sl_form m.zones
 obtain ⟨A8, n8, rfl⟩ := Ty.Sl_form m.key
 obtain ⟨A9, n9, rfl⟩ := Ty.Sl_form m.atts
 obtain ⟨A10, n10, rfl⟩ := Ty.Sl_form m.media
 have M := Lib.hid m
 obtain ⟨wA, hwA⟩ : ∃ wA, wA = w.alloc (.cells #[.int .i64 x.ver, .string x.org.user, .int .u64 x.org.id, .int .u64 x.org.ver, .string x.org.net, .string x.org.addr, .string x.org.adr, .string x.name, .slice A0 x.info.length n0, .slice A1 x.uri.length n1, .slice A2 x.email.length n2, .slice A3 x.phone.length n3, .slice A4 x.conn.length n4, .slice A5 x.bws.length n5, .slice A6 x.times.length n6, .slice A7 x.zones.length n7, .slice A8 x.key.length n8, .slice A9 x.atts.length n9, .slice A10 x.media.length n10] 33) := ⟨_, rfl⟩
 have qA : Nw w wA := by rw [hwA]; exact (Nw.refl w).alloc _
 have HX : Blk wA w.heap.size [.int .i64 x.ver, .string x.org.user, .int .u64 x.org.id, .int .u64 x.org.ver, .string x.org.net, .string x.org.addr, .string x.org.adr, .string x.name, .slice A0 x.info.length n0, .slice A1 x.uri.length n1, .slice A2 x.email.length n2, .slice A3 x.phone.length n3, .slice A4 x.conn.length n4, .slice A5 x.bws.length n5, .slice A6 x.times.length n6, .slice A7 x.zones.length n7, .slice A8 x.key.length n8, .slice A9 x.atts.length n9, .slice A10 x.media.length n10] 33 := by rw [hwA]; exact Blk.made w _ 33
 have MA := Lib.hid (m.loc (Nw.block qA))
 clear m
 go_enter Tryz.func6, Tryz.ntmps6
 go_upto_region 1 with fail
 rw [← hwA]
 have HF := Lib.hid (fun w1 (q : Nw wA w1) => zz1 x _ _ _ _ _ _ _ _ _ _ _ w1 (SsnAt.loc (Nw.block q) MA.out))
 unfold ssnVal at HF
 obtain ⟨bx, hbx⟩ : ∃ g, g = w.heap.size := ⟨_, rfl⟩
 rw [← hbx] at HX ⊢
 clear hbx hwA
 apply wp_region_lit
 refine wpList_load_row rfl 33 (.tmp 1) rfl bx rfl 33 _ (0, 0) _ HX Tryz.underlying33 rfl (by kernel_rfl) ?_
 cases hf : fitB1 x
 · rw [hf] at HF
   clear hf
   go_wp2_with (go_at_call 8; (with_reducible refine (HF.out _ (Nw.refl _)).mono ?_); rintro r w1 ⟨rfl, hn1⟩)
   go_ret
   exact ⟨rfl, qA.trans hn1⟩
 rw [hf] at HF
 have HT := Lib.hid hf
 clear hf
 go_upto_region 3 with (go_at_call 8; (with_reducible refine (HF.out _ (Nw.refl _)).mono ?_); rintro r w1 ⟨rfl, hn1⟩)
 have hp1 : Nw wA w1 := hn1
 have HSs := Lib.hid (law_session x w1 _ _ _ _ _ _ _ _ _ _ _ (SsnAt.loc (Nw.block hp1) MA.out) (ssn_sizes HT.out).2.2.2.1 (ssn_sizes HT.out).2.2.2.2.1 (ssn_sizes HT.out).2.2.2.2.2.1 (ssn_sizes HT.out).2.2.2.2.2.2)
 unfold ssnVal at HSs
 apply wp_region_lit
 refine wpList_load_row rfl 33 (.tmp 1) rfl bx rfl 33 _ (0, 0) _ (HX.nw hp1) Tryz.underlying33 rfl (by kernel_rfl) ?_
 go_upto_region 4 with (go_at_call 9; (with_reducible refine HSs.out.mono ?_); rintro r w2 ⟨v, rfl, ⟨t0, t1, t2, t3, t4, t5, t6, t7, t8, t9, t10, rfl, mt⟩, hn2⟩; unfold ssnVal; obtain ⟨B0, b0, rfl⟩ := Ty.Sl_form mt.info; obtain ⟨B1, b1, rfl⟩ := Ty.Sl_form mt.uri; obtain ⟨B2, b2, rfl⟩ := Ty.Sl_form mt.email; obtain ⟨B3, b3, rfl⟩ := Ty.Sl_form mt.phone; obtain ⟨B4, b4, rfl⟩ := Ty.Sl_form mt.conn; obtain ⟨B5, b5, rfl⟩ := Ty.Sl_form mt.bws; obtain ⟨B6, b6, rfl⟩ := Ty.Sl_form mt.times; obtain ⟨B7, b7, rfl⟩ := Ty.Sl_form mt.zones; obtain ⟨B8, b8, rfl⟩ := Ty.Sl_form mt.key; obtain ⟨B9, b9, rfl⟩ := Ty.Sl_form mt.atts; obtain ⟨B10, b10, rfl⟩ := Ty.Sl_form mt.media)
 obtain ⟨sx, hsx⟩ : ∃ g, g = w2.heap.size := ⟨_, rfl⟩
 obtain ⟨w3, hw3⟩ : ∃ w3, w3 = (w2.alloc (.cells #[.int .i64 0, .string ⟨#[]⟩, .int .u64 0, .int .u64 0, .string ⟨#[]⟩, .string ⟨#[]⟩, .string ⟨#[]⟩, .string ⟨#[]⟩, .slice none 0 0, .slice none 0 0, .slice none 0 0, .slice none 0 0, .slice none 0 0, .slice none 0 0, .slice none 0 0, .slice none 0 0, .slice none 0 0, .slice none 0 0, .slice none 0 0] 43)).setRow sx #[.int .i64 x.ver, .string x.org.user, .int .u64 x.org.id, .int .u64 x.org.ver, .string x.org.net, .string x.org.addr, .string x.org.adr, .string x.name, .slice B0 x.info.length b0, .slice B1 x.uri.length b1, .slice B2 x.email.length b2, .slice B3 x.phone.length b3, .slice B4 x.conn.length b4, .slice B5 x.bws.length b5, .slice B6 x.times.length b6, .slice B7 x.zones.length b7, .slice B8 x.key.length b8, .slice B9 x.atts.length b9, .slice B10 x.media.length b10] := ⟨_, rfl⟩
 have HY : Blk w3 sx [.int .i64 x.ver, .string x.org.user, .int .u64 x.org.id, .int .u64 x.org.ver, .string x.org.net, .string x.org.addr, .string x.org.adr, .string x.name, .slice B0 x.info.length b0, .slice B1 x.uri.length b1, .slice B2 x.email.length b2, .slice B3 x.phone.length b3, .slice B4 x.conn.length b4, .slice B5 x.bws.length b5, .slice B6 x.times.length b6, .slice B7 x.zones.length b7, .slice B8 x.key.length b8, .slice B9 x.atts.length b9, .slice B10 x.media.length b10] 43 := by rw [hw3, hsx]; exact blk_setRow (l2 := [.int .i64 x.ver, .string x.org.user, .int .u64 x.org.id, .int .u64 x.org.ver, .string x.org.net, .string x.org.addr, .string x.org.adr, .string x.name, .slice B0 x.info.length b0, .slice B1 x.uri.length b1, .slice B2 x.email.length b2, .slice B3 x.phone.length b3, .slice B4 x.conn.length b4, .slice B5 x.bws.length b5, .slice B6 x.times.length b6, .slice B7 x.zones.length b7, .slice B8 x.key.length b8, .slice B9 x.atts.length b9, .slice B10 x.media.length b10]) (Blk.made w2 [.int .i64 0, .string ⟨#[]⟩, .int .u64 0, .int .u64 0, .string ⟨#[]⟩, .string ⟨#[]⟩, .string ⟨#[]⟩, .string ⟨#[]⟩, .slice none 0 0, .slice none 0 0, .slice none 0 0, .slice none 0 0, .slice none 0 0, .slice none 0 0, .slice none 0 0, .slice none 0 0, .slice none 0 0, .slice none 0 0, .slice none 0 0] 43)
 have q23 : Nw w2 w3 := by rw [hw3]; exact ((Nw.refl w2).alloc _).setRow (by omega) _
 rw [← hsx, ← hw3]
 clear hw3 hsx
 have hp3 : Nw wA w3 := (hp1.trans hn2).trans q23
 have MB := Lib.hid (SsnAt.loc (Nw.block q23) mt)
 clear mt
 have HP := Lib.hid (fun w4 (q : Nw w3 w4) => spec_Proper x _ _ _ _ _ _ _ _ _ _ _ w4 (SsnAt.loc (Nw.block q) MB.out))
 unfold ssnVal at HP
 have HW := Lib.hid (fun w4 (q : Nw w w4) => law_works w4 a (hE.nw q))
 have HTB := Lib.hid (Lib.tabBelow_of_tabIs hT)
 have HE := Lib.hid hE
 clear hn1 hn2 q23 HF HSs hT hE
 apply wp_region_lit
 refine wpList_load_row rfl 43 (.tmp 3) rfl sx rfl 43 _ (0, 0) _ HY Tryz.underlying43 rfl (by kernel_rfl) ?_
 cases hp : proper x
 · rw [hp] at HP
   clear hp
   as_aux_lemma =>
    go_wp2_with (first | (go_at_call 11; (with_reducible refine (HP.out _ (Nw.refl _)).mono ?_); rintro r w4 ⟨rfl, hn4⟩) | (go_at_call 12; (with_reducible refine (HW.out _ ((qA.trans hp3).trans hn4)).mono ?_); rintro r w5 ⟨rfl, hn5⟩))
    go_ret
    exact ⟨rfl, ((qA.trans hp3).trans hn4).trans hn5⟩
 rw [hp] at HP
 have HR := Lib.hid hp
 clear hp
 go_upto_region 6 with (go_at_call 11; (with_reducible refine (HP.out _ (Nw.refl _)).mono ?_); rintro r w4 ⟨rfl, hn4⟩)
 have hq4 : Nw wA w4 := hp3.trans hn4
 have HG := Lib.hid (good_of MA.out HT.out HR.out)
 obtain ⟨tx, htx⟩ : ∃ t, t = mk (jt (lns x)) := ⟨_, rfl⟩
 have HMr := Lib.hid (fun w4 (q : Nw wA w4) => imp_marshal x w4 _ _ _ _ _ _ _ _ _ _ _ (SsnAt.loc (Nw.block q) MA.out) HG.out (HTB.out.on (qA.trans q)).here)
 have HSz := Lib.hid (fun w4 (q : Nw wA w4) => imp_size x w4 _ _ _ _ _ _ _ _ _ _ _ (SsnAt.loc (Nw.block q) MA.out) HG.out (HTB.out.on (qA.trans q)).here)
 have HX14 := Lib.hid (mr_lines MB.out HT.out HR.out)
 have hsz : ((jt (lns x)).length : Int) = (tx.size : Int) := by rw [htx, mk_size]
 rw [hsz] at HSz
 rw [← htx] at HMr HX14
 have HL := Lib.hid (fun w6 (q : Nw w3 w6) => spec_Lines x _ _ _ _ _ _ _ _ _ _ _ w6 (SsnAt.loc (Nw.block q) MB.out) (lns_bound MB.out HT.out HR.out) (ssn_sizes HT.out).1 (ssn_sizes HT.out).2.1 (by have := (ssn_sizes HT.out).2.2.1; omega))
 unfold ssnVal at HL HMr HSz
 clear htx hsz HP
 apply wp_region_lit
 refine wpList_load_row rfl 43 (.tmp 3) rfl sx rfl 43 _ (0, 0) _ (HY.nw hn4) Tryz.underlying43 rfl (by kernel_rfl) ?_
 go_upto_region 7 with (first
  | (go_at_call 10; (with_reducible refine (HL.out _ hn4).mono ?_); rintro r w5 ⟨vL, rfl, hrL, hn5⟩; obtain ⟨DL, eL, hvL, _⟩ := hrL.form; subst hvL)
  | (go_at_call 14; (with_reducible refine (HX14.out _ _ _ hrL).mono ?_); rintro r w6 ⟨rfl, hww⟩; have hww := hww.symm; subst hww))
 have hq5 : Nw wA w5 := hq4.trans hn5
 clear hrL
 apply wp_region_lit
 refine wpList_load_row rfl 33 (.tmp 1) rfl bx rfl 33 _ (0, 0) _ (HX.nw hq5) Tryz.underlying33 rfl (by kernel_rfl) ?_
 go_upto_region 8 with (go_at_call 17; (with_reducible refine (HMr.out _ hq5).mono ?_); rintro r w6 ⟨rfl, hn6⟩)
 have hq6 : Nw wA w6 := hq5.trans hn6
 have R6 := rowIs_blk (n := 19) (HX.nw hq6) rfl
 have O6 := rowOf_blk (HX.nw hq6)
 go_wp2_with (first
  | (go_at_call 18; (with_reducible refine (HSz.out _ hq6).mono ?_); rintro r w7 ⟨rfl, hn7⟩)
  | (go_at_call 12; (with_reducible refine (HW.out _ ((qA.trans hq6).trans hn7)).mono ?_); rintro r w8 ⟨rfl, hn8⟩))
 go_ret
 exact ⟨rfl, ((qA.trans hq6).trans hn7).trans hn8⟩
end Go.Proofs.YtcepdjlknalmnaaGreatDoor

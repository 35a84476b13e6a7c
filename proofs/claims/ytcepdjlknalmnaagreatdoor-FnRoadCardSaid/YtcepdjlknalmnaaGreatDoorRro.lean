/- For every session: FnRoad answers true, and its argument reads behind the call as it read before. The row, and its card. -/
import Derived.Test.YtcepdjlknalmnaaGreatDoorImr
import Derived.Test.YtcepdjlknalmnaaGreatDoorRdg
import Derived.Test.YtcepdjlknalmnaaGreatDoorRrof
import Derived.Carry
set_option linter.unusedSimpArgs false
set_option linter.unusedVariables false
namespace Go.Proofs.YtcepdjlknalmnaaGreatDoor
open Lib (hid)
open Go.RowKit
theorem mr_text {x : Ssn} {w : World} {v0 v1 v2 v3 v4 v5 v6 v7 v8 v9 v10 : Value} (m : SsnAt w x v0 v1 v2 v3 v4 v5 v6 v7 v8 v9 v10) (hf : qDd x = true) (hp : qC5 x = true) : jt (lns x) = qAm [13, 10] (qCw x) := by
 unfold jt
 rw [qGv x (qG0 hp (qGp m hf).1).2.2.2.2]
theorem rd_read {x : Ssn} {w3 : World} {v0 v1 v2 v3 v4 v5 v6 v7 v8 v9 v10 : Value} (m : SsnAt w3 x v0 v1 v2 v3 v4 v5 v6 v7 v8 v9 v10) (hf : qDd x = true) (hp : qC5 x = true) (hb : bare x = true) (a : Addr) (hE : Eof w3 a) (W : World) (hW : Nw w3 W) :
 Calls Tryz.prog 13 #[.string (mk (jt (lns x)))] W fun e w' => ∃ u0 u1 u2 u3 u4 u5 u6 u7 u8 u9 u10, e = .returned (.tuple #[qBv x u0 u1 u2 u3 u4 u5 u6 u7 u8 u9 u10, .bool true]) /\ SsnAt w' x u0 u1 u2 u3 u4 u5 u6 u7 u8 u9 u10 /\ Nw W w' := by
 obtain ⟨b1, b2⟩ := qGp m hf
 obtain ⟨h1, h2, h3, h4, h5⟩ := qG0 hp b1
 have hj := qNf m hf hp [13, 10] (by decide)
 have hj2 : (qAm [13, 10] (qCw x)).length <= qBj := by unfold qBj; omega
 have hu := qQw m hf hp W [13, 10] [] a (by simpa using hj2) (hE.nw hW) (.inl rfl) (.inl rfl)
 rw [List.append_nil] at hu
 rw [mr_text m hf hp]
 refine hu.mono ?_
 rintro e w' ⟨hn, ⟨_, v, rfl, hv⟩ | ⟨h, _⟩⟩
 · rw [qRg h5 hb] at hv
   obtain ⟨u0, u1, u2, u3, u4, u5, u6, u7, u8, u9, u10, rfl, mt⟩ := hv.now
   exact ⟨u0, u1, u2, u3, u4, u5, u6, u7, u8, u9, u10, rfl, mt, hn⟩
 exact absurd rfl h
attribute [local go_sem ↓] Go.wp_at_zero Go.wp_at_succ qJj qF2 qRh qRi
attribute [local go_sem] qFb qN2 qN1 qHc qHd qG1 qD6 qF3 qB5 qCv
set_option maxRecDepth 100000 in
set_option maxHeartbeats 4000000 in
theorem law_road (x : Ssn) (a : Addr) (w : World) (v0 v1 v2 v3 v4 v5 v6 v7 v8 v9 v10 : Value) (m : SsnAt w x v0 v1 v2 v3 v4 v5 v6 v7 v8 v9 v10) (hE : Eof w a) (hT : Lib.TabIs Tryz.prog w "internal/strconv.uint64pow10" .u64 Lib.pow10Tab) :
 Calls Tryz.prog 5 #[qBv x v0 v1 v2 v3 v4 v5 v6 v7 v8 v9 v10] w fun r w' => r = .returned (.bool true) /\ Nw w w' := by
 unfold qBv
 obtain ⟨A0, n0, rfl⟩ := Ty.Sl_form m.info
 obtain ⟨A1, n1, rfl⟩ := Ty.Sl_form m.uri
 obtain ⟨A2, n2, rfl⟩ := Ty.Sl_form m.email
 obtain ⟨A3, n3, rfl⟩ := Ty.Sl_form m.phone
 obtain ⟨A4, n4, rfl⟩ := Ty.Sl_form m.conn
 obtain ⟨A5, n5, rfl⟩ := Ty.Sl_form m.bws
 obtain ⟨A6, n6, rfl⟩ := Ty.Sl_form m.times
 obtain ⟨A7, n7, rfl⟩ := Ty.Sl_form m.zones
 obtain ⟨A8, n8, rfl⟩ := Ty.Sl_form m.key
 obtain ⟨A9, n9, rfl⟩ := Ty.Sl_form m.atts
 obtain ⟨A10, n10, rfl⟩ := Ty.Sl_form m.media
 have M := hid m
 obtain ⟨wA, hwA⟩ : ∃ wA, wA = w.alloc (.cells #[.int .i64 x.ver, .string x.org.user, .int .u64 x.org.id, .int .u64 x.org.ver, .string x.org.net, .string x.org.addr, .string x.org.adr, .string x.name, .slice A0 x.info.length n0, .slice A1 x.uri.length n1, .slice A2 x.email.length n2, .slice A3 x.phone.length n3, .slice A4 x.conn.length n4, .slice A5 x.bws.length n5, .slice A6 x.times.length n6, .slice A7 x.zones.length n7, .slice A8 x.key.length n8, .slice A9 x.atts.length n9, .slice A10 x.media.length n10] 33) := ⟨_, rfl⟩
 have qA : Nw w wA := by rw [hwA]; exact (Nw.refl w).alloc _
 have HX : Blk wA w.heap.size [.int .i64 x.ver, .string x.org.user, .int .u64 x.org.id, .int .u64 x.org.ver, .string x.org.net, .string x.org.addr, .string x.org.adr, .string x.name, .slice A0 x.info.length n0, .slice A1 x.uri.length n1, .slice A2 x.email.length n2, .slice A3 x.phone.length n3, .slice A4 x.conn.length n4, .slice A5 x.bws.length n5, .slice A6 x.times.length n6, .slice A7 x.zones.length n7, .slice A8 x.key.length n8, .slice A9 x.atts.length n9, .slice A10 x.media.length n10] 33 := by rw [hwA]; exact Blk.made w _ 33
 have MA := hid (m.loc (Nw.block qA))
 clear m
 go_enter Tryz.func5, Tryz.ntmps5
 go_upto_region 1 with fail
 rw [<- hwA]
 have HF := hid (fun w1 (q : Nw wA w1) => zz1 x _ _ _ _ _ _ _ _ _ _ _ w1 (SsnAt.loc (Nw.block q) MA.out))
 unfold qBv at HF
 obtain ⟨bx, hbx⟩ : ∃ g, g = w.heap.size := ⟨_, rfl⟩
 rw [<- hbx] at HX ⊢
 clear hbx hwA
 apply wp_region_lit
 refine wpList_load_row rfl 33 (.tmp 1) rfl bx rfl 33 _ (0, 0) _ HX Tryz.underlying33 rfl (by kernel_rfl) ?_
 cases hf : qDd x
 · rw [hf] at HF
   clear hf
   go_wp2_with (go_at_call 8; (with_reducible refine (HF.out _ (Nw.refl _)).mono ?_); rintro r w1 ⟨rfl, hn1⟩)
   go_ret
   exact ⟨rfl, qA.trans hn1⟩
 rw [hf] at HF
 have HT := hid hf
 clear hf
 go_upto_region 3 with (go_at_call 8; (with_reducible refine (HF.out _ (Nw.refl _)).mono ?_); rintro r w1 ⟨rfl, hn1⟩)
 have hp1 : Nw wA w1 := hn1
 have HSs := hid (qIp x w1 _ _ _ _ _ _ _ _ _ _ _ (SsnAt.loc (Nw.block hp1) MA.out) (qB8 HT.out).2.2.2.1 (qB8 HT.out).2.2.2.2.1 (qB8 HT.out).2.2.2.2.2.1 (qB8 HT.out).2.2.2.2.2.2)
 unfold qBv at HSs
 apply wp_region_lit
 refine wpList_load_row rfl 33 (.tmp 1) rfl bx rfl 33 _ (0, 0) _ (HX.nw hp1) Tryz.underlying33 rfl (by kernel_rfl) ?_
 go_upto_region 4 with (go_at_call 9; (with_reducible refine HSs.out.mono ?_); rintro r w2 ⟨v, rfl, ⟨t0, t1, t2, t3, t4, t5, t6, t7, t8, t9, t10, rfl, mt⟩, hn2⟩; unfold qBv; obtain ⟨B0, b0, rfl⟩ := Ty.Sl_form mt.info; obtain ⟨B1, b1, rfl⟩ := Ty.Sl_form mt.uri; obtain ⟨B2, b2, rfl⟩ := Ty.Sl_form mt.email; obtain ⟨B3, b3, rfl⟩ := Ty.Sl_form mt.phone; obtain ⟨B4, b4, rfl⟩ := Ty.Sl_form mt.conn; obtain ⟨B5, b5, rfl⟩ := Ty.Sl_form mt.bws; obtain ⟨B6, b6, rfl⟩ := Ty.Sl_form mt.times; obtain ⟨B7, b7, rfl⟩ := Ty.Sl_form mt.zones; obtain ⟨B8, b8, rfl⟩ := Ty.Sl_form mt.key; obtain ⟨B9, b9, rfl⟩ := Ty.Sl_form mt.atts; obtain ⟨B10, b10, rfl⟩ := Ty.Sl_form mt.media)
 obtain ⟨sx, hsx⟩ : ∃ g, g = w2.heap.size := ⟨_, rfl⟩
 obtain ⟨w3, hw3⟩ : ∃ w3, w3 = (w2.alloc (.cells #[.int .i64 0, .string ⟨#[]⟩, .int .u64 0, .int .u64 0, .string ⟨#[]⟩, .string ⟨#[]⟩, .string ⟨#[]⟩, .string ⟨#[]⟩, .slice none 0 0, .slice none 0 0, .slice none 0 0, .slice none 0 0, .slice none 0 0, .slice none 0 0, .slice none 0 0, .slice none 0 0, .slice none 0 0, .slice none 0 0, .slice none 0 0] 43)).setRow sx #[.int .i64 x.ver, .string x.org.user, .int .u64 x.org.id, .int .u64 x.org.ver, .string x.org.net, .string x.org.addr, .string x.org.adr, .string x.name, .slice B0 x.info.length b0, .slice B1 x.uri.length b1, .slice B2 x.email.length b2, .slice B3 x.phone.length b3, .slice B4 x.conn.length b4, .slice B5 x.bws.length b5, .slice B6 x.times.length b6, .slice B7 x.zones.length b7, .slice B8 x.key.length b8, .slice B9 x.atts.length b9, .slice B10 x.media.length b10] := ⟨_, rfl⟩
 have HY : Blk w3 sx [.int .i64 x.ver, .string x.org.user, .int .u64 x.org.id, .int .u64 x.org.ver, .string x.org.net, .string x.org.addr, .string x.org.adr, .string x.name, .slice B0 x.info.length b0, .slice B1 x.uri.length b1, .slice B2 x.email.length b2, .slice B3 x.phone.length b3, .slice B4 x.conn.length b4, .slice B5 x.bws.length b5, .slice B6 x.times.length b6, .slice B7 x.zones.length b7, .slice B8 x.key.length b8, .slice B9 x.atts.length b9, .slice B10 x.media.length b10] 43 := by rw [hw3, hsx]; exact qBp (l2 := [.int .i64 x.ver, .string x.org.user, .int .u64 x.org.id, .int .u64 x.org.ver, .string x.org.net, .string x.org.addr, .string x.org.adr, .string x.name, .slice B0 x.info.length b0, .slice B1 x.uri.length b1, .slice B2 x.email.length b2, .slice B3 x.phone.length b3, .slice B4 x.conn.length b4, .slice B5 x.bws.length b5, .slice B6 x.times.length b6, .slice B7 x.zones.length b7, .slice B8 x.key.length b8, .slice B9 x.atts.length b9, .slice B10 x.media.length b10]) (Blk.made w2 [.int .i64 0, .string ⟨#[]⟩, .int .u64 0, .int .u64 0, .string ⟨#[]⟩, .string ⟨#[]⟩, .string ⟨#[]⟩, .string ⟨#[]⟩, .slice none 0 0, .slice none 0 0, .slice none 0 0, .slice none 0 0, .slice none 0 0, .slice none 0 0, .slice none 0 0, .slice none 0 0, .slice none 0 0, .slice none 0 0, .slice none 0 0] 43)
 have q23 : Nw w2 w3 := by rw [hw3]; exact ((Nw.refl w2).alloc _).setRow (by omega) _
 rw [<- hsx, <- hw3]
 clear hw3 hsx
 have hp3 : Nw wA w3 := (hp1.trans hn2).trans q23
 have MB := hid (SsnAt.loc (Nw.block q23) mt)
 clear mt
 have HP := hid (fun w4 (q : Nw w3 w4) => qLv x _ _ _ _ _ _ _ _ _ _ _ w4 (SsnAt.loc (Nw.block q) MB.out))
 unfold qBv at HP
 have HW := hid (fun w4 (q : Nw w w4) => qQy w4 a (hE.nw q))
 have HTB := hid (Lib.tabBelow_of_tabIs hT)
 have HE := hid hE
 clear hn1 hn2 q23 HF HSs hT hE
 apply wp_region_lit
 refine wpList_load_row rfl 43 (.tmp 3) rfl sx rfl 43 _ (0, 0) _ HY Tryz.underlying43 rfl (by kernel_rfl) ?_
 cases hp : qC5 x
 · rw [hp] at HP
   clear hp
   as_aux_lemma =>
    go_wp2_with (first | (go_at_call 11; (with_reducible refine (HP.out _ (Nw.refl _)).mono ?_); rintro r w4 ⟨rfl, hn4⟩) | (go_at_call 12; (with_reducible refine (HW.out _ ((qA.trans hp3).trans hn4)).mono ?_); rintro r w5 ⟨rfl, hn5⟩))
    go_ret
    exact ⟨rfl, ((qA.trans hp3).trans hn4).trans hn5⟩
 rw [hp] at HP
 have HR := hid hp
 have hcl : (qG4 x).length <= 1099511627776 := by
  have h1 := (qG0 hp (qGp MB.out HT.out).1).2.1
  have h2 := cons_le x
  have h3 := qL6 (lns x)
  omega
 have HB := hid (fun w4 (q : Nw w3 w4) => qQz x _ _ _ _ _ _ _ _ _ _ _ w4 (SsnAt.loc (Nw.block q) MB.out) hcl)
 unfold qBv at HB
 have HP2 := hid (fun w4 (hn4 : Nw w3 w4) => (⟨qEu (n := 19) (HY.nw hn4) rfl, qLm (HY.nw hn4)⟩ : _ /\ _))
 have R3 := qEu (n := 19) HY rfl
 have O3 := qLm HY
 clear hp hcl
 cases hb : bare x
 · rw [hb] at HB
   clear hb
   as_aux_lemma =>
    go_wp2_with (first | (go_at_call 11; (with_reducible refine (HP.out _ (Nw.refl _)).mono ?_); rintro r w4 ⟨rfl, hn4⟩; obtain ⟨R4, O4⟩ := HP2.out _ hn4) | (go_at_call 15; (with_reducible refine (HB.out _ hn4).mono ?_); rintro r w5 ⟨rfl, hn5⟩) | (go_at_call 12; (with_reducible refine (HW.out _ ((qA.trans hp3).trans (hn4.trans hn5))).mono ?_); rintro r w6 ⟨rfl, hn6⟩))
    go_ret
    exact ⟨rfl, ((qA.trans hp3).trans (hn4.trans hn5)).trans hn6⟩
 rw [hb] at HB
 have HBB := hid hb
 clear hb
 go_upto_region 6 with (first | (go_at_call 11; (with_reducible refine (HP.out _ (Nw.refl _)).mono ?_); rintro r w4 ⟨rfl, hn4⟩; obtain ⟨R4, O4⟩ := HP2.out _ hn4) | (go_at_call 15; (with_reducible refine (HB.out _ hn4).mono ?_); rintro r w5 ⟨rfl, hn5⟩))
 clear R3 O3 R4 O4 HP2
 have hn45 : Nw w3 w5 := hn4.trans hn5
 have hq5 : Nw wA w5 := hp3.trans hn45
 have HG := hid (good_of MA.out HT.out HR.out)
 obtain ⟨tx, htx⟩ : ∃ t, t = mk (jt (lns x)) := ⟨_, rfl⟩
 have HMr := hid (fun w4 (q : Nw wA w4) => qIu x w4 _ _ _ _ _ _ _ _ _ _ _ (SsnAt.loc (Nw.block q) MA.out) HG.out (HTB.out.on (qA.trans q)).here)
 have HMt := hid (fun w4 (q : Nw wA w4) u0 u1 u2 u3 u4 u5 u6 u7 u8 u9 u10 (mu : SsnAt w4 x u0 u1 u2 u3 u4 u5 u6 u7 u8 u9 u10) => qIu x w4 u0 u1 u2 u3 u4 u5 u6 u7 u8 u9 u10 mu HG.out (HTB.out.on (qA.trans q)).here)
 have HX13 := hid (rd_read MB.out HT.out HR.out HBB.out a (HE.out.nw (qA.trans hp3)))
 rw [<- htx] at HMr HMt HX13
 have HSA := hid (law_same x)
 have HSZ := hid (show Lns (qCw x) /\ qI0 x.conn /\ (∀ y ∈ x.media, qI0 y.conn) /\ x.zones.length <= 274877906944 from ⟨qQv MB.out HT.out HR.out, (qB8 HT.out).1, (qB8 HT.out).2.1, (by have := (qB8 HT.out).2.2.1; omega)⟩)
 have HSN := hid (qIp x)
 unfold qBv at HSN HSA HMr HMt HX13
 have HSZ2 := hid (show _ /\ _ /\ _ /\ _ from ⟨(qB8 HT.out).2.2.2.1, (qB8 HT.out).2.2.2.2.1, (qB8 HT.out).2.2.2.2.2.1, (qB8 HT.out).2.2.2.2.2.2⟩)
 clear htx HP HB
 apply wp_region_lit
 refine wpList_load_row rfl 33 (.tmp 1) rfl bx rfl 33 _ (0, 0) _ (HX.nw hq5) Tryz.underlying33 rfl (by kernel_rfl) ?_
 go_upto_region 7 with (go_at_call 17; (with_reducible refine (HMr.out _ hq5).mono ?_); rintro r w6 ⟨rfl, hn6⟩)
 have hn36 : Nw w3 w6 := hn45.trans hn6
 go_upto_region 8 with (go_at_call 13; (with_reducible refine (HX13.out _ hn36).mono ?_); rintro r w7 ⟨u0, u1, u2, u3, u4, u5, u6, u7, u8, u9, u10, rfl, mu, hn7⟩; obtain ⟨C0, c0, rfl⟩ := Ty.Sl_form mu.info; obtain ⟨C1, c1, rfl⟩ := Ty.Sl_form mu.uri; obtain ⟨C2, c2, rfl⟩ := Ty.Sl_form mu.email; obtain ⟨C3, c3, rfl⟩ := Ty.Sl_form mu.phone; obtain ⟨C4, c4, rfl⟩ := Ty.Sl_form mu.conn; obtain ⟨C5, c5, rfl⟩ := Ty.Sl_form mu.bws; obtain ⟨C6, c6, rfl⟩ := Ty.Sl_form mu.times; obtain ⟨C7, c7, rfl⟩ := Ty.Sl_form mu.zones; obtain ⟨C8, c8, rfl⟩ := Ty.Sl_form mu.key; obtain ⟨C9, c9, rfl⟩ := Ty.Sl_form mu.atts; obtain ⟨C10, c10, rfl⟩ := Ty.Sl_form mu.media)
 obtain ⟨gt, hgt⟩ : ∃ g, g = w7.heap.size := ⟨_, rfl⟩
 obtain ⟨w8, hw8⟩ : ∃ z, z = (w7.alloc (.cells #[.int .i64 0, .string ⟨#[]⟩, .int .u64 0, .int .u64 0, .string ⟨#[]⟩, .string ⟨#[]⟩, .string ⟨#[]⟩, .string ⟨#[]⟩, .slice none 0 0, .slice none 0 0, .slice none 0 0, .slice none 0 0, .slice none 0 0, .slice none 0 0, .slice none 0 0, .slice none 0 0, .slice none 0 0, .slice none 0 0, .slice none 0 0] 33)).setRow gt #[.int .i64 x.ver, .string x.org.user, .int .u64 x.org.id, .int .u64 x.org.ver, .string x.org.net, .string x.org.addr, .string x.org.adr, .string x.name, .slice C0 x.info.length c0, .slice C1 x.uri.length c1, .slice C2 x.email.length c2, .slice C3 x.phone.length c3, .slice C4 x.conn.length c4, .slice C5 x.bws.length c5, .slice C6 x.times.length c6, .slice C7 x.zones.length c7, .slice C8 x.key.length c8, .slice C9 x.atts.length c9, .slice C10 x.media.length c10] := ⟨_, rfl⟩
 have HG8 : Blk w8 gt [.int .i64 x.ver, .string x.org.user, .int .u64 x.org.id, .int .u64 x.org.ver, .string x.org.net, .string x.org.addr, .string x.org.adr, .string x.name, .slice C0 x.info.length c0, .slice C1 x.uri.length c1, .slice C2 x.email.length c2, .slice C3 x.phone.length c3, .slice C4 x.conn.length c4, .slice C5 x.bws.length c5, .slice C6 x.times.length c6, .slice C7 x.zones.length c7, .slice C8 x.key.length c8, .slice C9 x.atts.length c9, .slice C10 x.media.length c10] 33 := by rw [hw8, hgt]; exact qBp (l2 := [.int .i64 x.ver, .string x.org.user, .int .u64 x.org.id, .int .u64 x.org.ver, .string x.org.net, .string x.org.addr, .string x.org.adr, .string x.name, .slice C0 x.info.length c0, .slice C1 x.uri.length c1, .slice C2 x.email.length c2, .slice C3 x.phone.length c3, .slice C4 x.conn.length c4, .slice C5 x.bws.length c5, .slice C6 x.times.length c6, .slice C7 x.zones.length c7, .slice C8 x.key.length c8, .slice C9 x.atts.length c9, .slice C10 x.media.length c10]) (Blk.made w7 [.int .i64 0, .string ⟨#[]⟩, .int .u64 0, .int .u64 0, .string ⟨#[]⟩, .string ⟨#[]⟩, .string ⟨#[]⟩, .string ⟨#[]⟩, .slice none 0 0, .slice none 0 0, .slice none 0 0, .slice none 0 0, .slice none 0 0, .slice none 0 0, .slice none 0 0, .slice none 0 0, .slice none 0 0, .slice none 0 0, .slice none 0 0] 33)
 have q78 : Nw w7 w8 := by rw [hw8]; exact ((Nw.refl w7).alloc _).setRow (by omega) _
 rw [<- hgt, <- hw8]
 clear hw8 hgt
 have MU := hid (SsnAt.loc (Nw.block q78) mu)
 have hn38 : Nw w3 w8 := (hn36.trans hn7).trans q78
 have hq8 : Nw wA w8 := hp3.trans hn38
 clear mu hn4 hn5 hn6 hn7 q78
 apply wp_region_lit
 refine wpList_load_row rfl 33 (.tmp 6) rfl gt rfl 33 _ (0, 0) _ HG8 Tryz.underlying33 rfl (by kernel_rfl) ?_
 go_upto_region 9 with (go_at_call 17; (with_reducible refine (HMt.out _ hq8 _ _ _ _ _ _ _ _ _ _ _ MU.out).mono ?_); rintro r w9 ⟨rfl, hn9⟩)
 have hqc : Nw w3 w9 := hn38.trans hn9
 refine qAv 21 (fun w' => Blk w' gt [.int .i64 x.ver, .string x.org.user, .int .u64 x.org.id, .int .u64 x.org.ver, .string x.org.net, .string x.org.addr, .string x.org.adr, .string x.name, .slice C0 x.info.length c0, .slice C1 x.uri.length c1, .slice C2 x.email.length c2, .slice C3 x.phone.length c3, .slice C4 x.conn.length c4, .slice C5 x.bws.length c5, .slice C6 x.times.length c6, .slice C7 x.zones.length c7, .slice C8 x.key.length c8, .slice C9 x.atts.length c9, .slice C10 x.media.length c10] 33 /\ Blk w' sx [.int .i64 x.ver, .string x.org.user, .int .u64 x.org.id, .int .u64 x.org.ver, .string x.org.net, .string x.org.addr, .string x.org.adr, .string x.name, .slice B0 x.info.length b0, .slice B1 x.uri.length b1, .slice B2 x.email.length b2, .slice B3 x.phone.length b3, .slice B4 x.conn.length b4, .slice B5 x.bws.length b5, .slice B6 x.times.length b6, .slice B7 x.zones.length b7, .slice B8 x.key.length b8, .slice B9 x.atts.length b9, .slice B10 x.media.length b10] 43) (by kernel_rfl) ⟨(HG8.nw hn9).drew, (HY.nw hqc).drew⟩ (fun hHeld => ?_)
 obtain ⟨y0, hy0⟩ : ∃ z, z = w9.drew := ⟨_, rfl⟩
 have hy : Nw w8 y0 := by rw [hy0]; exact hn9.drew
 rw [<- hy0] at hHeld ⊢
 clear hy0
 have hx0 := hn38.trans hy
 refine' tkA 0 [21] hHeld ?_
 try simp only [sP]
 refine' tkA 1 [21] hHeld ?_
 try simp only [sP]
 refine' tkA 2 [21] hHeld ?_
 try simp only [sP]
 refine' tkA 3 [21] hHeld ?_
 try simp only [sP]
 refine' tkA 4 [21] hHeld ?_
 try simp only [sP]
 refine' tkA 5 [21] hHeld ?_
 try simp only [sP]
 refine' tkA 6 [21] hHeld ?_
 try simp only [sP]
 refine' tkA 7 [21] hHeld ?_
 try simp only [sP]
 refine' tkA 8 [21] hHeld ?_ (hy := by exact Or.inl ⟨rfl, fun w hSw => qMb hSw.1 rfl rfl⟩)
 try simp only [sP]
 refine' tkA 10 [21] hHeld ?_ (hy := by exact Or.inl ⟨rfl, fun w hSw => qMc hSw.2 rfl rfl⟩)
 try simp only [sP]
 refine' qB9 9 (by kernel_rfl) rfl (by decide) (fun K hK => ?_)
 (go_simp; go_at_call 9; (with_reducible refine (HSN.out _ (.slice C0 x.info.length c0) (.slice C1 x.uri.length c1) (.slice C2 x.email.length c2) (.slice C3 x.phone.length c3) (.slice C4 x.conn.length c4) (.slice C5 x.bws.length c5) (.slice C6 x.times.length c6) (.slice C7 x.zones.length c7) (.slice C8 x.key.length c8) (.slice C9 x.atts.length c9) (.slice C10 x.media.length c10) (SsnAt.loc (Nw.block (w := w8) hy) MU.out) HSZ2.out.1 HSZ2.out.2.1 HSZ2.out.2.2.1 HSZ2.out.2.2.2).mono ?_); rintro r y1 ⟨vS, rfl, ⟨t0, t1, t2, t3, t4, t5, t6, t7, t8, t9, t10, rfl, mt⟩, hk1⟩)
 have hy1 := hy.trans hk1
 have hx1 := hn38.trans hy1
 unfold qBv
 obtain ⟨E0, E1, E2, E3, E4, E5, E6, E7, E8, E9, E10, e0, e1, e2, e3, e4, e5, e6, e7, e8, e9, e10, rfl, rfl, rfl, rfl, rfl, rfl, rfl, rfl, rfl, rfl, rfl⟩ := ssn_form mt
 have MT := hid mt
 clear mt
 refine hK.out _ _ ?_ (fun hHeld => ?_)
 · exact ⟨HG8.nw hy1, HY.nw hx1⟩
 clear hK K
 try simp only [sP]
 refine' qB9 11 (by kernel_rfl) rfl (by decide) (fun K hK => ?_)
 (go_simp; go_at_call 16; (with_reducible refine (HSA.out _ (.slice E0 x.info.length e0) (.slice E1 x.uri.length e1) (.slice E2 x.email.length e2) (.slice E3 x.phone.length e3) (.slice E4 x.conn.length e4) (.slice E5 x.bws.length e5) (.slice E6 x.times.length e6) (.slice E7 x.zones.length e7) (.slice E8 x.key.length e8) (.slice E9 x.atts.length e9) (.slice E10 x.media.length e10) (.slice B0 x.info.length b0) (.slice B1 x.uri.length b1) (.slice B2 x.email.length b2) (.slice B3 x.phone.length b3) (.slice B4 x.conn.length b4) (.slice B5 x.bws.length b5) (.slice B6 x.times.length b6) (.slice B7 x.zones.length b7) (.slice B8 x.key.length b8) (.slice B9 x.atts.length b9) (.slice B10 x.media.length b10) MT.out (SsnAt.loc (Nw.block hx1) MB.out) HSZ.out.1 HSZ.out.2.1 HSZ.out.2.2.1 HSZ.out.2.2.2).mono ?_); rintro r y2 ⟨rfl, hk2⟩)
 have hx2 := hx1.trans hk2
 have hy2 := hy1.trans hk2
 refine hK.out _ _ ?_ (fun hHeld => ?_)
 · exact ⟨HG8.nw hy2, HY.nw hx2⟩
 clear hK K
 try simp only [sP]
 refine' tkA 12 [21] hHeld ?_
 try simp only [sP]
 refine' tkA 13 [21] hHeld ?_
 try simp only [sP]
 refine' tkA 14 [21] hHeld ?_
 try simp only [sP]
 refine' tkA 15 [21] hHeld ?_
 try simp only [sP]
 refine' tkA 16 [21] hHeld ?_
 try simp only [sP]
 refine' tkA 17 [21] hHeld ?_
 try simp only [sP]
 refine' tkA 18 [21] hHeld ?_
 try simp only [sP]
 refine' qB9 19 (by kernel_rfl) rfl (by decide) (fun K hK => ?_)
 (go_simp; go_at_call 12; (with_reducible refine (HW.out _ ((qA.trans hp3).trans hx2)).mono ?_); rintro r y3 ⟨rfl, hk3⟩)
 have hx3 := hx2.trans hk3
 have hy3 := hy2.trans hk3
 refine hK.out _ _ ?_ (fun hHeld => ?_)
 · exact ⟨HG8.nw hy3, HY.nw hx3⟩
 clear hK K
 try simp only [sP]
 refine' tkA 20 [21] hHeld ?_
 try simp only [sP]
 refine' qBr (by kernel_rfl) rfl (by kernel_rfl) (fun K hK => ?_)
 go_simp
 refine hK.out _ _ ?_
 clear hK K
 go_wp2
 go_ret
 exact ⟨rfl, (qA.trans hp3).trans hx3⟩
end Go.Proofs.YtcepdjlknalmnaaGreatDoor
namespace Go.Proofs.YtcepdjlknalmnaaGreatDoor
open Lib (hid)
open Go.ChangeShapes Go.WideShapes Go.ChangeAt Go.RowKit
theorem laid_out : laidOutB Tryz.prog = true := by kernel_rfl
theorem each_mem {H : Type} {ts : List TypeId} {ds : List (DataW H)} {n : Nat} (hz : (DataW.weightsEach Tryz.prog ts ds).all (· <= reachBytes) = true) (hn : n ∈ DataW.weightsEach Tryz.prog ts ds) : n <= reachBytes := by
 simpa using List.all_eq_true.1 hz n hn
set_option maxRecDepth 100000 in
theorem ro_laid (os : Os) (args : Array Value) : laidMet Tryz.prog Rows.fnRoadRow.laid ((laidWorld os).forCall (fun _ _ => 0) ⟨#[], args, []⟩).memory :=
 (LaidIn.of_run [0, 1, 2, 3, 4, 5, 6, 7, 8, 9, 10, 11, 12, 13, 14, 15, N0, N0 + 1, N0 + 2, N0 + 3, N0 + 4, N0 + 5, N0 + 6, N0 + 7, N0 + 8, N0 + 9, N0 + 10] 8 (by kernel_rfl) (by kernel_rfl) (by kernel_rfl) (by kernel_rfl)).met
def qLo : Value := .agg #[.int .i64 0, .string ⟨#[]⟩, .int .u64 0, .int .u64 0, .string ⟨#[]⟩, .string ⟨#[]⟩, .string ⟨#[]⟩, .string ⟨#[]⟩, .slice none 0 0, .slice none 0 0, .slice none 0 0, .slice none 0 0, .slice none 0 0, .slice none 0 0, .slice none 0 0, .slice none 0 0, .slice none 0 0, .slice none 0 0, .slice none 0 0]
set_option maxRecDepth 100000 in
theorem ro_row (H : Type) (enc : TypeId × Value -> H) (W : World) (base : Nat) (args : Array Value) (ds gs : List (DataW H)) (before : List MemPlace)
 (hval : ∀ (j : Nat) t v, Tryz.f5.params[j]? = some t -> args[j]? = some v -> Value.okWide Tryz.prog W .any base t v)
 (hW : DataW.Whole enc Tryz.prog Tryz.f5.params.toList Rows.fnRoadSpec.vars false W args.toList ds gs before) (hL : laidMetH Tryz.prog Rows.fnRoadRow.laid W)
 (hz : (DataW.weightsEach Tryz.prog (Tryz.f5.params.toList ++ (OpenSpec.ofChange Rows.fnRoadSpec).bare.plain.varTypes Tryz.prog) (ds ++ gs)).all (· <= reachBytes) = true) :
 Calls Tryz.prog 5 args W fun e W' => ∃ v, e = .returned v /\ Rows.fnRoadSpec.post enc Tryz.prog Tryz.f5 false true false false W args v W' := by
 have hW' := hW
 obtain ⟨p, q, hA0, hV, rfl, hfz, hnd⟩ := hW
 have hA : DataW.TrodAll enc Tryz.prog W 0 (fun _ => true) true Tryz.f5.params.toList args.toList ds p := hA0
 rw [Tryz.params5] at hA hval hz
 obtain ⟨v0, d0, rfl, rfl, h0⟩ := trodAll_one hA
 obtain ⟨rfl, rfl⟩ := trodVars_none hV
 have h0k := h0
 have hlt : ∀ y ∈ p, y.block < W.heap.size := fun y hy => by
  have := hW'.lt y (by simp [hy])
  simpa using this
 obtain ⟨cs, rfl, hcs⟩ := okWide_struct Tryz.underlying33 (hval 0 33 v0 rfl rfl)
 clear hA0 hA hval
 obtain ⟨n, hn⟩ := h0
 obtain ⟨x, u0, u1, u2, u3, u4, u5, u6, u7, u8, u9, u10, hcs2, m⟩ := rd_ssn H enc W 0 (fun _ => true) true n cs.toList (d0, p) hn (fun k hk => each_mem hz (DataW.weights_mem_each (j := 0) (t := 33) (d := d0) rfl rfl k hk))
 obtain rfl : cs = #[.int .i64 x.ver, .string x.org.user, .int .u64 x.org.id, .int .u64 x.org.ver, .string x.org.net, .string x.org.addr, .string x.org.adr, .string x.name, u0, u1, u2, u3, u4, u5, u6, u7, u8, u9, u10] := by
  cases cs; simp_all
 have hL' : laidMet Tryz.prog Rows.fnRoadRow.laid W := hL
 obtain ⟨a, hE⟩ : ∃ a, Eof W a := eof_laid (r := Rows.fnRoadRow.laid.drop 6) hL'.tail.tail.tail.tail.tail
 have hT : Lib.TabIs Tryz.prog W "internal/strconv.uint64pow10" .u64 Lib.pow10Tab := Lib.tabIs_of_head (rest := Rows.fnRoadRow.laid.drop 3) (g := 5) (by kernel_rfl) (by kernel_rfl) Tryz.underlying280 Tryz.underlying22 (by kernel_rfl) (by kernel_rfl) hL'.tail.tail
 refine (law_road x a W u0 u1 u2 u3 u4 u5 u6 u7 u8 u9 u10 m hE hT).mono ?_
 rintro e' W' ⟨rfl, bel⟩
 exact ⟨_, rfl, _, _, _, [], _, [], hW', trodAll_mk1 (shut_bool Tryz.underlying4 _), trodAll_mk1 (Below.trod laid_out (by kernel_rfl) (of_decide_eq_true (by kernel_rfl)) h0k bel hlt), rfl, bel.frame _, fun h => by cases h⟩
set_option maxRecDepth 100000 in
theorem qN3 (os : Os) {H : Type} (enc : TypeId × Value -> H) :
 (OpenSpec.ofChange Rows.fnRoadSpec).preRow enc Tryz.prog Tryz.f5 Rows.fnRoadRow.domain false Rows.fnRoadRow.laid ((laidWorld os).forCall (fun _ _ => 0) ⟨#[], #[qLo], []⟩).memory #[qLo] := by
 have hw : (DataW.whole enc Tryz.prog ((laidWorld os).forCall (fun _ _ => 0) ⟨#[], #[qLo], []⟩).memory Tryz.f5.params.toList Rows.fnRoadSpec.vars false #[qLo].toList 8).map (fun x => (x.1, x.2.1)) =
  some ([.agg [.lit (.int .i64 0), .agg [.lit (.string []), .lit (.int .u64 0), .lit (.int .u64 0), .lit (.string []), .lit (.string []), .lit (.string [])], .lit (.string []), .nil, .nil, .nil, .nil, .nil, .nil, .nil, .nil, .nil, .nil, .nil]], []) := by kernel_rfl
 obtain ⟨⟨x1, x2, x3⟩, hx, hx1⟩ := Option.map_eq_some_iff.1 hw
 simp only [Prod.mk.injEq] at hx1
 obtain ⟨rfl, rfl⟩ := hx1
 exact OpenSpec.preRow_of_cond 8 hx (by kernel_rfl) (fun k hk => by cases hk) (by kernel_rfl) (ro_laid os _)
set_option maxRecDepth 100000 in
theorem qRn (os : Os) (started : os.Started) (H : Type) (enc : TypeId × Value -> H) (F : Stop.Interp) :
 ReturnsInHanded {} Tryz.checked os 5 .any ((OpenSpec.ofChange Rows.fnRoadSpec).preRow enc Tryz.prog Tryz.f5 Rows.fnRoadRow.domain false Rows.fnRoadRow.laid) (((OpenSpec.ofChange Rows.fnRoadSpec).at F).post enc Tryz.prog Tryz.f5 false true false false) := by
 refine returnsInHanded_of_row (C := Tryz.checked) (s := OpenSpec.ofChange Rows.fnRoadSpec) knob started (by kernel_rfl) Tryz.func5
  (witness_row_atRef (enc := enc) (C := Tryz.checked) false (laidWorld os) #[qLo] rfl (by kernel_rfl) (by kernel_rfl) (by kernel_rfl) (qN3 os enc)) ?_
 intro W base args ds gs before hval hW _ _ hz hL _ _
 exact ro_row H enc W base args ds gs before hval hW hL hz
set_option maxRecDepth 100000 in
theorem ro_said : Rows.FnRoadSaid :=
 OpenClaim.holds_of_cond 5 Tryz.f5 rfl rfl rfl rfl rfl rfl rfl ⟨rfl, rfl, rfl, rfl, rfl⟩ rfl rfl rfl rfl rfl (by as_aux_lemma => kernel_rfl) Tryz.func5 ro_facts
  (of_decide_eq_true (by as_aux_lemma => kernel_rfl)) (by as_aux_lemma => (unfold Func.isWrapper; first | (rw [if_pos (by decide +kernel)]; kernel_rfl) | (rw [if_neg (by decide +kernel)]; exact ⟨rfl, rfl⟩)))
  (fun os started H enc _ F => by rw [OpenClaim.pre_eq_preRow]; exact qRn os started H enc F)
theorem ro_plain (f : FuncId) (fn : Func) (hf : Tryz.pinned.checked.prog.funcNamed "pionsdp/laws.FnRoad" = some f) (hfn : Tryz.pinned.checked.prog.funcs[f]? = some fn) :
 true = Tryz.pinned.checked.prog.looks [] /\ ∀ (j : Nat) t, fn.params[j]? = some t -> Tryz.pinned.checked.prog.wantsStandIn t = false := by
 obtain rfl : f = 5 := Option.some.inj ((show Tryz.prog.funcNamed "pionsdp/laws.FnRoad" = some 5 by kernel_rfl).symm.trans hf) |>.symm
 obtain rfl : fn = Tryz.f5 := (Option.some.inj (Tryz.func5.symm.trans hfn)).symm
 refine ⟨by kernel_rfl, fun j t ht => ?_⟩
 rw [Tryz.params5] at ht
 obtain rfl : t = 33 := by simpa using Array.mem_of_getElem? ht
 exact (show Tryz.prog.wantsStandIn 33 = false by kernel_rfl)
theorem ro_card : Rows.FnRoadCardSaid :=
 Claim7.holds_tied_plain_at .later [] _ _ _ _ ro_said (fun _ h => by cases h) (by as_aux_lemma => kernel_rfl) (fun _ h => by cases h) fnRoad_row_tie rfl ⟨rfl, rfl⟩ (by as_aux_lemma => kernel_rfl) rfl ro_plain (by as_aux_lemma => kernel_rfl)
end Go.Proofs.YtcepdjlknalmnaaGreatDoor

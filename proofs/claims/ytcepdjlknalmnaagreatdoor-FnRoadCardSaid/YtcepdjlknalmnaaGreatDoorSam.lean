/- The statements' own comparison of two sessions. Written by a small program of this claim's own (gensam). -/
import Derived.Test.YtcepdjlknalmnaaGreatDoorWrk
import Derived.Test.YtcepdjlknalmnaaGreatDoorTxtF
set_option linter.unusedSimpArgs false
set_option linter.unusedVariables false
namespace Go.Proofs.YtcepdjlknalmnaaGreatDoor
open Tryz
open Lib (hid)
open Go.RowKit
attribute [local go_sem ↓] Go.wp_at_zero Go.wp_at_succ
set_option maxRecDepth 100000 in
theorem qIs (xs : List ByteArray) (v v' : Value) (w : World) (h : qAd.Sl w xs v) (h' : qAd.Sl w xs v') :
 Calls prog 50 #[v, v'] w fun e w' => e = .returned (.bool true) /\ Nw w w' := by
 obtain ⟨A, c, rfl⟩ := Ty.Sl_form h
 obtain ⟨A', c', rfl⟩ := Ty.Sl_form h'
 have hm := h.1
 go_enter func50, ntmps50
 go_wp2
 go_loopw [13] (fun i wr => ∃ k : Nat, k <= xs.length /\ i = .int .i64 k /\ Nw w wr) (fun i _ => xs.length - (intOf i).toNat)
 case atStart => exact ⟨0, Nat.zero_le _, rfl, Nw.refl _⟩
 obtain ⟨k, hk, rfl, hnw⟩ := hrel
 by_cases hlt : k < xs.length
 · obtain ⟨b, o, rfl, ha⟩ := Ty.Sl_at h k hlt
   obtain ⟨b', o', rfl, ha'⟩ := Ty.Sl_at h' k hlt
   obtain ⟨cs, ⟨rfl, hwf⟩, hx⟩ := ha k _ (List.getElem?_eq_getElem hlt)
   obtain ⟨cs, ⟨rfl, hwf'⟩, hx'⟩ := ha' k _ (List.getElem?_eq_getElem hlt)
   have c0 := hnw.cell (hx 0 _ rfl)
   have c1 := hnw.cell (hx' 0 _ rfl)
   simp only [qAd, Ty.flat, Nat.mul_one, Nat.add_zero] at c0 c1
   clear hx hx'
   have k1 : (0 : Int) <= (k : Int) := by omega
   have k2 : (k : Int) < (xs.length : Int) := by omega
   have k3 : (k : Int) <= (xs.length : Int) := by omega
   go_wp2
   go_region_held3 (fun w' => w'.cell? ⟨b, o + k, none⟩ = some (.string xs[k]) /\ w'.cell? ⟨b', o' + k, none⟩ = some (.string xs[k])) (first | exact ⟨Nw.cell (by (apply_rules [Nw.refl, Nw.drew, Nw.drewN, Nw.alloc])) c0, Nw.cell (by (apply_rules [Nw.refl, Nw.drew, Nw.drewN, Nw.alloc])) c1⟩ | go_keep) (first | fail)
   go_wp2
   exact ⟨⟨k + 1, by omega, by go_num, hnw.drew⟩, by simp [intOf]; omega⟩
 go_wp2
 go_ret
 exact ⟨rfl, hnw⟩
end Go.Proofs.YtcepdjlknalmnaaGreatDoor
namespace Go.Proofs.YtcepdjlknalmnaaGreatDoor
open Tryz
open Lib (hid)
open Go.RowKit
attribute [local go_sem ↓] Go.wp_at_zero Go.wp_at_succ
set_option maxRecDepth 100000 in
theorem qJn {w : World} {g : Nat} {l : List Value} {d : Option Tmp} {i : Tmp} {ty : TypeId} {pos : String} {after : Array Edge} {a : Act} (h : Blk w g l 43) (hl : l.length = 19) (ha : a.eval (.tmp i) = .pointer (some ⟨g, 0, none⟩)) :
 (execOp a.eval ⟨d, .load 43 (.tmp i), ty, pos, after, none⟩).run prog w = .ok (.value (.agg l.toArray)) w := by
 have hi : (prog.info? 43).map (·.size) = some l.toArray.size := by rw [List.size_toArray, hl]; kernel_rfl
 have h1 := run_loadVar_row w g 43 43 l.toArray (0, 0) _ h underlying43 rfl hi
 unfold execOp
 simp only [ha, Instr.loadAt, Instr.sureAddr, Sem.run_bind, Sem.run_pure, Result.andThen_ok, h1]
set_option maxRecDepth 100000 in
set_option maxHeartbeats 4000000 in
theorem law_same (x : Ssn) (w : World) (v0 v1 v2 v3 v4 v5 v6 v7 v8 v9 v10 u0 u1 u2 u3 u4 u5 u6 u7 u8 u9 u10 : Value) (m : SsnAt w x v0 v1 v2 v3 v4 v5 v6 v7 v8 v9 v10) (m' : SsnAt w x u0 u1 u2 u3 u4 u5 u6 u7 u8 u9 u10) (hb : Lns (qCw x)) (hc : qI0 x.conn) (hcm : ∀ y ∈ x.media, qI0 y.conn) (hzz : x.zones.length <= 274877906944) :
 Calls prog 16 #[qBv x v0 v1 v2 v3 v4 v5 v6 v7 v8 v9 v10, qBv x u0 u1 u2 u3 u4 u5 u6 u7 u8 u9 u10] w fun e w' => e = .returned (.bool true) /\ Nw w w' := by
 unfold qBv
 obtain ⟨A0, n0, rfl⟩ := Ty.Sl_form m.info
 obtain ⟨C0, k0, rfl⟩ := Ty.Sl_form m'.info
 obtain ⟨A1, n1, rfl⟩ := Ty.Sl_form m.uri
 obtain ⟨C1, k1, rfl⟩ := Ty.Sl_form m'.uri
 obtain ⟨A2, n2, rfl⟩ := Ty.Sl_form m.email
 obtain ⟨C2, k2, rfl⟩ := Ty.Sl_form m'.email
 obtain ⟨A3, n3, rfl⟩ := Ty.Sl_form m.phone
 obtain ⟨C3, k3, rfl⟩ := Ty.Sl_form m'.phone
 obtain ⟨A4, n4, rfl⟩ := Ty.Sl_form m.conn
 obtain ⟨C4, k4, rfl⟩ := Ty.Sl_form m'.conn
 obtain ⟨A5, n5, rfl⟩ := Ty.Sl_form m.bws
 obtain ⟨C5, k5, rfl⟩ := Ty.Sl_form m'.bws
 obtain ⟨A6, n6, rfl⟩ := Ty.Sl_form m.times
 obtain ⟨C6, k6, rfl⟩ := Ty.Sl_form m'.times
 obtain ⟨A7, n7, rfl⟩ := Ty.Sl_form m.zones
 obtain ⟨C7, k7, rfl⟩ := Ty.Sl_form m'.zones
 obtain ⟨A8, n8, rfl⟩ := Ty.Sl_form m.key
 obtain ⟨C8, k8, rfl⟩ := Ty.Sl_form m'.key
 obtain ⟨A9, n9, rfl⟩ := Ty.Sl_form m.atts
 obtain ⟨C9, k9, rfl⟩ := Ty.Sl_form m'.atts
 obtain ⟨A10, n10, rfl⟩ := Ty.Sl_form m.media
 obtain ⟨C10, k10, rfl⟩ := Ty.Sl_form m'.media
 obtain ⟨wA, hwA⟩ : ∃ wA, wA = (w.alloc (.cells #[.int .i64 x.ver, .string x.org.user, .int .u64 x.org.id, .int .u64 x.org.ver, .string x.org.net, .string x.org.addr, .string x.org.adr, .string x.name, .slice A0 x.info.length n0, .slice A1 x.uri.length n1, .slice A2 x.email.length n2, .slice A3 x.phone.length n3, .slice A4 x.conn.length n4, .slice A5 x.bws.length n5, .slice A6 x.times.length n6, .slice A7 x.zones.length n7, .slice A8 x.key.length n8, .slice A9 x.atts.length n9, .slice A10 x.media.length n10] 43)).alloc (.cells #[.int .i64 x.ver, .string x.org.user, .int .u64 x.org.id, .int .u64 x.org.ver, .string x.org.net, .string x.org.addr, .string x.org.adr, .string x.name, .slice C0 x.info.length k0, .slice C1 x.uri.length k1, .slice C2 x.email.length k2, .slice C3 x.phone.length k3, .slice C4 x.conn.length k4, .slice C5 x.bws.length k5, .slice C6 x.times.length k6, .slice C7 x.zones.length k7, .slice C8 x.key.length k8, .slice C9 x.atts.length k9, .slice C10 x.media.length k10] 43) := ⟨_, rfl⟩
 have qA : Nw w wA := by rw [hwA]; exact ((Nw.refl w).alloc _).alloc _
 obtain ⟨bx, hbx⟩ : ∃ g, g = w.heap.size := ⟨_, rfl⟩
 obtain ⟨bz, hbz⟩ : ∃ g, g = w.heap.size + 1 := ⟨_, rfl⟩
 have HX : Blk wA bx [.int .i64 x.ver, .string x.org.user, .int .u64 x.org.id, .int .u64 x.org.ver, .string x.org.net, .string x.org.addr, .string x.org.adr, .string x.name, .slice A0 x.info.length n0, .slice A1 x.uri.length n1, .slice A2 x.email.length n2, .slice A3 x.phone.length n3, .slice A4 x.conn.length n4, .slice A5 x.bws.length n5, .slice A6 x.times.length n6, .slice A7 x.zones.length n7, .slice A8 x.key.length n8, .slice A9 x.atts.length n9, .slice A10 x.media.length n10] 43 := by rw [hwA, hbx]; exact (Blk.made w _ 43).alloc _
 have HY : Blk wA bz [.int .i64 x.ver, .string x.org.user, .int .u64 x.org.id, .int .u64 x.org.ver, .string x.org.net, .string x.org.addr, .string x.org.adr, .string x.name, .slice C0 x.info.length k0, .slice C1 x.uri.length k1, .slice C2 x.email.length k2, .slice C3 x.phone.length k3, .slice C4 x.conn.length k4, .slice C5 x.bws.length k5, .slice C6 x.times.length k6, .slice C7 x.zones.length k7, .slice C8 x.key.length k8, .slice C9 x.atts.length k9, .slice C10 x.media.length k10] 43 := by
  have := Blk.made (w.alloc (.cells #[.int .i64 x.ver, .string x.org.user, .int .u64 x.org.id, .int .u64 x.org.ver, .string x.org.net, .string x.org.addr, .string x.org.adr, .string x.name, .slice A0 x.info.length n0, .slice A1 x.uri.length n1, .slice A2 x.email.length n2, .slice A3 x.phone.length n3, .slice A4 x.conn.length n4, .slice A5 x.bws.length n5, .slice A6 x.times.length n6, .slice A7 x.zones.length n7, .slice A8 x.key.length n8, .slice A9 x.atts.length n9, .slice A10 x.media.length n10] 43)) [.int .i64 x.ver, .string x.org.user, .int .u64 x.org.id, .int .u64 x.org.ver, .string x.org.net, .string x.org.addr, .string x.org.adr, .string x.name, .slice C0 x.info.length k0, .slice C1 x.uri.length k1, .slice C2 x.email.length k2, .slice C3 x.phone.length k3, .slice C4 x.conn.length k4, .slice C5 x.bws.length k5, .slice C6 x.times.length k6, .slice C7 x.zones.length k7, .slice C8 x.key.length k8, .slice C9 x.atts.length k9, .slice C10 x.media.length k10] 43
  rw [hwA, hbz]; simpa using this
 have LB := hid hb
 have LC := hid hc
 have LM := hid hcm
 clear hb hc hcm
 have MX : Hid (SsnAt wA x (.slice A0 x.info.length n0) (.slice A1 x.uri.length n1) (.slice A2 x.email.length n2) (.slice A3 x.phone.length n3) (.slice A4 x.conn.length n4) (.slice A5 x.bws.length n5) (.slice A6 x.times.length n6) (.slice A7 x.zones.length n7) (.slice A8 x.key.length n8) (.slice A9 x.atts.length n9) (.slice A10 x.media.length n10)) := hid (m.loc (Nw.block qA))
 have MY : Hid (SsnAt wA x (.slice C0 x.info.length k0) (.slice C1 x.uri.length k1) (.slice C2 x.email.length k2) (.slice C3 x.phone.length k3) (.slice C4 x.conn.length k4) (.slice C5 x.bws.length k5) (.slice C6 x.times.length k6) (.slice C7 x.zones.length k7) (.slice C8 x.key.length k8) (.slice C9 x.atts.length k9) (.slice C10 x.media.length k10)) := hid (m'.loc (Nw.block qA))
 go_enter func16, ntmps16
 go_upto_region 1 with fail
 rw [<- hbz, <- hwA, <- hbx]
 clear hwA
 have HBX := hid hbx
 have HBZ := hid hbz
 clear hbx hbz
 refine qAv 23 (fun w' => Blk w' bx [.int .i64 x.ver, .string x.org.user, .int .u64 x.org.id, .int .u64 x.org.ver, .string x.org.net, .string x.org.addr, .string x.org.adr, .string x.name, .slice A0 x.info.length n0, .slice A1 x.uri.length n1, .slice A2 x.email.length n2, .slice A3 x.phone.length n3, .slice A4 x.conn.length n4, .slice A5 x.bws.length n5, .slice A6 x.times.length n6, .slice A7 x.zones.length n7, .slice A8 x.key.length n8, .slice A9 x.atts.length n9, .slice A10 x.media.length n10] 43 /\ Blk w' bz [.int .i64 x.ver, .string x.org.user, .int .u64 x.org.id, .int .u64 x.org.ver, .string x.org.net, .string x.org.addr, .string x.org.adr, .string x.name, .slice C0 x.info.length k0, .slice C1 x.uri.length k1, .slice C2 x.email.length k2, .slice C3 x.phone.length k3, .slice C4 x.conn.length k4, .slice C5 x.bws.length k5, .slice C6 x.times.length k6, .slice C7 x.zones.length k7, .slice C8 x.key.length k8, .slice C9 x.atts.length k9, .slice C10 x.media.length k10] 43 /\ w'.cell? ⟨bx, 18, none⟩ = some (.slice A10 x.media.length n10) /\ w'.cell? ⟨bz, 18, none⟩ = some (.slice C10 x.media.length k10) /\ w'.cell? ⟨bx, 14, none⟩ = some (.slice A6 x.times.length n6) /\ w'.cell? ⟨bz, 14, none⟩ = some (.slice C6 x.times.length k6)) (by kernel_rfl) (⟨HX.nw ((Nw.refl wA).drew), HY.nw ((Nw.refl wA).drew), (HX.nw ((Nw.refl wA).drew)).cell 18 rfl, (HY.nw ((Nw.refl wA).drew)).cell 18 rfl, (HX.nw ((Nw.refl wA).drew)).cell 14 rfl, (HY.nw ((Nw.refl wA).drew)).cell 14 rfl⟩) (fun hHeld => ?_)
 refine' tkA 0 [1, 4, 5, 6, 14, 15, 23] (by assumption) ?_ (hy := by exact Or.inl ⟨rfl, fun w hSw => qJn hSw.1 rfl rfl⟩)
 try simp only [sP]
 refine' tkA 2 [3, 4, 5, 6, 14, 15, 23] (by assumption) ?_ (hy := by exact Or.inl ⟨rfl, fun w hSw => qJn hSw.2.1 rfl rfl⟩)
 try simp only [sP]
 refine' qB9 1 (by kernel_rfl) rfl (by decide) (fun K hK => ?_)
 (go_simp; go_at_call 10; have HL := qJm x (.slice A0 x.info.length n0) (.slice A1 x.uri.length n1) (.slice A2 x.email.length n2) (.slice A3 x.phone.length n3) (.slice A4 x.conn.length n4) (.slice A5 x.bws.length n5) (.slice A6 x.times.length n6) (.slice A7 x.zones.length n7) (.slice A8 x.key.length n8) (.slice A9 x.atts.length n9) (.slice A10 x.media.length n10) _ (SsnAt.loc (Nw.block ((Nw.refl wA).drew)) MX.out) LB.out LC.out LM.out hzz; unfold qBv at HL; (with_reducible refine HL.mono ?_); clear HL; rintro e z1 ⟨t1, rfl, hr1, hn1⟩; have hp1 : Nw wA z1 := Nw.trans ((Nw.refl wA).drew) hn1; obtain ⟨D1, e1, rfl, _⟩ := hr1.form)
 refine hK.out _ _ ?_ (fun hHeld => ?_)
 · exact ⟨HX.nw hp1, HY.nw hp1, (HX.nw hp1).cell 18 rfl, (HY.nw hp1).cell 18 rfl, (HX.nw hp1).cell 14 rfl, (HY.nw hp1).cell 14 rfl⟩
 clear hK K
 (try simp only [sP])
 refine' qB9 3 (by kernel_rfl) rfl (by decide) (fun K hK => ?_)
 (go_simp; go_at_call 10; have HL := qJm x (.slice C0 x.info.length k0) (.slice C1 x.uri.length k1) (.slice C2 x.email.length k2) (.slice C3 x.phone.length k3) (.slice C4 x.conn.length k4) (.slice C5 x.bws.length k5) (.slice C6 x.times.length k6) (.slice C7 x.zones.length k7) (.slice C8 x.key.length k8) (.slice C9 x.atts.length k9) (.slice C10 x.media.length k10) _ (SsnAt.loc (Nw.block hp1) MY.out) LB.out LC.out LM.out hzz; unfold qBv at HL; (with_reducible refine HL.mono ?_); clear HL; rintro e z3 ⟨t3, rfl, hr3, hn3⟩; have hp3 : Nw wA z3 := Nw.trans hp1 hn3; obtain ⟨D3, e3, rfl, _⟩ := hr3.form)
 refine hK.out _ _ ?_ (fun hHeld => ?_)
 · exact ⟨HX.nw hp3, HY.nw hp3, (HX.nw hp3).cell 18 rfl, (HY.nw hp3).cell 18 rfl, (HX.nw hp3).cell 14 rfl, (HY.nw hp3).cell 14 rfl⟩
 clear hK K
 (try simp only [sP])
 refine' qB9 4 (by kernel_rfl) rfl (by decide) (fun K hK => ?_)
 (go_simp; go_at_call 50; (with_reducible refine (qIs ((qCw x).map mk) _ _ _ (qB2.sl (hr1.nw hn3) LB.out) (qB2.sl hr3 LB.out)).mono ?_); rintro e z4 ⟨rfl, hn4⟩; have hp4 : Nw wA z4 := Nw.trans hp3 hn4)
 refine hK.out _ _ ?_ (fun hHeld => ?_)
 · exact ⟨HX.nw hp4, HY.nw hp4, (HX.nw hp4).cell 18 rfl, (HY.nw hp4).cell 18 rfl, (HX.nw hp4).cell 14 rfl, (HY.nw hp4).cell 14 rfl⟩
 clear hK K
 (try simp only [sP])
 refine' qB9 5 (by kernel_rfl) rfl (by decide) (fun K hK => ?_)
 go_simp
 refine hK.out _ _ ?_ (fun hHeld => ?_)
 · exact ⟨HX.nw hp4, HY.nw hp4, (HX.nw hp4).cell 18 rfl, (HY.nw hp4).cell 18 rfl, (HX.nw hp4).cell 14 rfl, (HY.nw hp4).cell 14 rfl⟩
 clear hK K
 (try simp only [sP])
 refine' qB9 6 (by kernel_rfl) rfl (by decide) (fun K hK => ?_)
 go_simp
 refine hK.out _ _ ?_ (fun hHeld => ?_)
 · exact ⟨HX.nw hp4, HY.nw hp4, (HX.nw hp4).cell 18 rfl, (HY.nw hp4).cell 18 rfl, (HX.nw hp4).cell 14 rfl, (HY.nw hp4).cell 14 rfl⟩
 clear hK K
 refine' tkA 7 [8, 9, 13, 14, 15, 23] (by assumption) ?_
 try simp only [sP]
 refine' tkA 8 [9, 13, 14, 15, 23] (by assumption) ?_
 try simp only [sP]
 refine' tkA 9 [13, 14, 15, 23] (by assumption) ?_
 try simp only [sP]
 refine' tkA 10 [11, 12, 13, 14, 15, 23] (by assumption) ?_
 try simp only [sP]
 refine' tkA 11 [12, 13, 14, 15, 23] (by assumption) ?_
 try simp only [sP]
 refine' tkA 12 [13, 14, 15, 23] (by assumption) ?_
 try simp only [sP]
 refine' tkA 13 [14, 15, 23] (by assumption) ?_
 try simp only [sP]
 refine' tkA 14 [15, 23] (by assumption) ?_
 try simp only [sP]
 refine' tkA 15 [23] (by assumption) ?_
 try simp only [sP]
 refine' tkA 16 [17, 18, 22, 23] (by assumption) ?_
 try simp only [sP]
 refine' tkA 17 [18, 22, 23] (by assumption) ?_
 try simp only [sP]
 refine' tkA 18 [22, 23] (by assumption) ?_
 try simp only [sP]
 refine' tkA 19 [20, 21, 22, 23] (by assumption) ?_
 try simp only [sP]
 refine' tkA 20 [21, 22, 23] (by assumption) ?_
 try simp only [sP]
 refine' tkA 21 [22, 23] (by assumption) ?_
 try simp only [sP]
 refine' tkA 22 [23] (by assumption) ?_
 try simp only [sP]
 refine' qBr (by kernel_rfl) rfl (by kernel_rfl) (fun K hK => ?_)
 go_simp
 refine hK.out _ _ ?_
 clear hK K
 go_wp2
 have cX := (HX.nw hp4).cell 18 rfl
 have cY := (HY.nw hp4).cell 18 rfl
 have cX5 := (HX.nw hp4).cell 15 rfl
 have cY5 := (HY.nw hp4).cell 15 rfl
 have cX6 := (HX.nw hp4).cell 13 rfl
 have cY6 := (HY.nw hp4).cell 13 rfl
 have cX7 := (HX.nw hp4).cell 17 rfl
 have cY7 := (HY.nw hp4).cell 17 rfl
 have hmd := m.media.1
 clear m m' HX HY
 go_wp2
 go_loopw [33] (fun i wr => ∃ k : Nat, k <= x.media.length /\ i = .int .i64 k /\ Nw z4 wr) (fun i _ => x.media.length - (intOf i).toNat)
 case atStart => exact ⟨0, Nat.zero_le _, rfl, Nw.refl _⟩
 obtain ⟨k, hk, rfl, hnw⟩ := hrel
 by_cases hlt : k < x.media.length
 · obtain ⟨b, o, rfl, ha⟩ := Ty.Sl_at MX.out.media k hlt
   obtain ⟨b', o', rfl, ha'⟩ := Ty.Sl_at MY.out.media k hlt
   obtain ⟨cs, ⟨p0, p1, p2, p3, p4, p5, p6, p7, rfl, mt⟩, hx⟩ := ha k _ (List.getElem?_eq_getElem hlt)
   obtain ⟨cs, ⟨q0, q1, q2, q3, q4, q5, q6, q7, rfl, mu⟩, hy⟩ := ha' k _ (List.getElem?_eq_getElem hlt)
   obtain ⟨G9, g9, rfl⟩ := Ty.Sl_form mt.atts
   obtain ⟨J9, j9, rfl⟩ := Ty.Sl_form mu.atts
   have hnA : Nw wA wr := hp4.trans hnw
   have c3 := hnA.cell (hx 3 _ rfl)
   have c4 := hnA.cell (hx 4 _ rfl)
   have c9 := hnA.cell (hx 9 _ rfl)
   have d3 := hnA.cell (hy 3 _ rfl)
   have d4 := hnA.cell (hy 4 _ rfl)
   have d9 := hnA.cell (hy 9 _ rfl)
   have cX' := hnw.cell cX
   have cY' := hnw.cell cY
   simp only [qEj, Nat.add_zero] at c3 c4 c9 d3 d4 d9
   clear hx hy ha ha'
   have MT := hid mt
   have MU := hid mu
   clear mt mu
   have k1 : (0 : Int) <= (k : Int) := by omega
   have k2 : (k : Int) < (x.media.length : Int) := by omega
   have k3 : (k : Int) <= (x.media.length : Int) := by omega
   go_upto_region 6 with fail
   refine qAv 46 (fun w' => w'.cell? ⟨bx, 18, none⟩ = some (.slice (some ⟨b, o, none⟩) x.media.length n10) /\ w'.cell? ⟨bz, 18, none⟩ = some (.slice (some ⟨b', o', none⟩) x.media.length k10) /\ w'.cell? ⟨b, o + k * 10 + 3, none⟩ = some p1 /\ w'.cell? ⟨b, o + k * 10 + 4, none⟩ = some p2 /\ w'.cell? ⟨b, o + k * 10 + 9, none⟩ = some (.slice G9 x.media[k].atts.length g9) /\ w'.cell? ⟨b', o' + k * 10 + 3, none⟩ = some q1 /\ w'.cell? ⟨b', o' + k * 10 + 4, none⟩ = some q2 /\ w'.cell? ⟨b', o' + k * 10 + 9, none⟩ = some (.slice J9 x.media[k].atts.length j9)) (by kernel_rfl) (⟨Nw.cell ((Nw.refl wr).drew) cX', Nw.cell ((Nw.refl wr).drew) cY', Nw.cell ((Nw.refl wr).drew) c3, Nw.cell ((Nw.refl wr).drew) c4, Nw.cell ((Nw.refl wr).drew) c9, Nw.cell ((Nw.refl wr).drew) d3, Nw.cell ((Nw.refl wr).drew) d4, Nw.cell ((Nw.refl wr).drew) d9⟩) (fun hHeld => ?_)
   refine' tkA 0 [1, 3, 4, 5, 12, 14, 27, 30, 46] (by assumption) ?_
   try simp only [sP]
   refine' tkA 1 [3, 4, 5, 12, 14, 27, 30, 46] (by assumption) ?_
   try simp only [sP]
   refine' tkA 2 [3, 4, 5, 12, 14, 27, 30, 46] (by assumption) ?_
   try simp only [sP]
   refine' tkA 3 [4, 5, 12, 14, 27, 30, 46] (by assumption) ?_
   try simp only [sP]
   refine' tkA 4 [5, 12, 14, 27, 30, 46] (by assumption) ?_
   try simp only [sP]
   refine' tkA 5 [12, 14, 27, 30, 46] (by assumption) ?_
   try simp only [sP]
   refine' tkA 6 [7, 9, 10, 11, 12, 14, 27, 30, 46] (by assumption) ?_
   try simp only [sP]
   refine' tkA 7 [9, 10, 11, 12, 14, 27, 30, 46] (by assumption) ?_
   try simp only [sP]
   refine' tkA 8 [9, 10, 11, 12, 14, 27, 30, 46] (by assumption) ?_
   try simp only [sP]
   refine' tkA 9 [10, 11, 12, 14, 27, 30, 46] (by assumption) ?_
   try simp only [sP]
   refine' tkA 10 [11, 12, 14, 27, 30, 46] (by assumption) ?_
   try simp only [sP]
   refine' tkA 11 [12, 14, 27, 30, 46] (by assumption) ?_
   try simp only [sP]
   refine' qB9 12 (by kernel_rfl) rfl (by decide) (fun K hK => ?_)
   (go_simp; go_at_call 50; (with_reducible refine (qIs x.media[k].protos _ _ _ (Ty.Sl_loc (Nw.block (w := wA) (hnA.trans ((Nw.refl wr).drew))) MT.out.protos) (Ty.Sl_loc (Nw.block (w := wA) (hnA.trans ((Nw.refl wr).drew))) MU.out.protos)).mono ?_); rintro e y1 ⟨rfl, hm1⟩; have hq1 : Nw wr y1 := Nw.trans ((Nw.refl wr).drew) hm1)
   refine hK.out _ _ ?_ (fun hHeld => ?_)
   · exact ⟨Nw.cell hq1 cX', Nw.cell hq1 cY', Nw.cell hq1 c3, Nw.cell hq1 c4, Nw.cell hq1 c9, Nw.cell hq1 d3, Nw.cell hq1 d4, Nw.cell hq1 d9⟩
   clear hK K
   refine' tkA 13 [14, 27, 30, 46] (by assumption) ?_
   try simp only [sP]
   refine' tkA 14 [27, 30, 46] (by assumption) ?_
   try simp only [sP]
   refine' tkA 15 [16, 18, 19, 20, 27, 30, 46] (by assumption) ?_
   try simp only [sP]
   refine' tkA 16 [18, 19, 20, 27, 30, 46] (by assumption) ?_
   try simp only [sP]
   refine' tkA 17 [18, 19, 20, 27, 30, 46] (by assumption) ?_
   try simp only [sP]
   refine' tkA 18 [19, 20, 27, 30, 46] (by assumption) ?_
   try simp only [sP]
   refine' tkA 19 [20, 27, 30, 46] (by assumption) ?_
   try simp only [sP]
   refine' tkA 20 [27, 30, 46] (by assumption) ?_
   try simp only [sP]
   refine' tkA 21 [22, 24, 25, 26, 27, 30, 46] (by assumption) ?_
   try simp only [sP]
   refine' tkA 22 [24, 25, 26, 27, 30, 46] (by assumption) ?_
   try simp only [sP]
   refine' tkA 23 [24, 25, 26, 27, 30, 46] (by assumption) ?_
   try simp only [sP]
   refine' tkA 24 [25, 26, 27, 30, 46] (by assumption) ?_
   try simp only [sP]
   refine' tkA 25 [26, 27, 30, 46] (by assumption) ?_
   try simp only [sP]
   refine' tkA 26 [27, 30, 46] (by assumption) ?_
   try simp only [sP]
   refine' qB9 27 (by kernel_rfl) rfl (by decide) (fun K hK => ?_)
   (go_simp; go_at_call 50; (with_reducible refine (qIs x.media[k].fmts _ _ _ (Ty.Sl_loc (Nw.block (w := wA) (hnA.trans hq1)) MT.out.fmts) (Ty.Sl_loc (Nw.block (w := wA) (hnA.trans hq1)) MU.out.fmts)).mono ?_); rintro e y2 ⟨rfl, hm2⟩; have hq2 : Nw wr y2 := Nw.trans hq1 hm2)
   refine hK.out _ _ ?_ (fun hHeld => ?_)
   · exact ⟨Nw.cell hq2 cX', Nw.cell hq2 cY', Nw.cell hq2 c3, Nw.cell hq2 c4, Nw.cell hq2 c9, Nw.cell hq2 d3, Nw.cell hq2 d4, Nw.cell hq2 d9⟩
   clear hK K
   refine' tkA 28 [29, 30, 46] (by assumption) ?_
   try simp only [sP]
   refine' tkA 29 [30, 46] (by assumption) ?_
   try simp only [sP]
   refine' tkA 30 [46] (by assumption) ?_
   try simp only [sP]
   refine' tkA 31 [32, 34, 35, 36, 37, 45, 46] (by assumption) ?_
   try simp only [sP]
   refine' tkA 32 [34, 35, 36, 37, 45, 46] (by assumption) ?_
   try simp only [sP]
   refine' tkA 33 [34, 35, 36, 37, 45, 46] (by assumption) ?_
   try simp only [sP]
   refine' tkA 34 [35, 36, 37, 45, 46] (by assumption) ?_
   try simp only [sP]
   refine' tkA 35 [36, 37, 45, 46] (by assumption) ?_
   try simp only [sP]
   refine' tkA 36 [37, 45, 46] (by assumption) ?_
   try simp only [sP]
   refine' tkA 37 [45, 46] (by assumption) ?_
   try simp only [sP]
   refine' tkA 38 [39, 41, 42, 43, 44, 45, 46] (by assumption) ?_
   try simp only [sP]
   refine' tkA 39 [41, 42, 43, 44, 45, 46] (by assumption) ?_
   try simp only [sP]
   refine' tkA 40 [41, 42, 43, 44, 45, 46] (by assumption) ?_
   try simp only [sP]
   refine' tkA 41 [42, 43, 44, 45, 46] (by assumption) ?_
   try simp only [sP]
   refine' tkA 42 [43, 44, 45, 46] (by assumption) ?_
   try simp only [sP]
   refine' tkA 43 [44, 45, 46] (by assumption) ?_
   try simp only [sP]
   refine' tkA 44 [45, 46] (by assumption) ?_
   try simp only [sP]
   refine' tkA 45 [46] (by assumption) ?_
   try simp only [sP]
   refine' qBr (by kernel_rfl) rfl (by kernel_rfl) (fun K hK => ?_)
   go_simp
   refine hK.out _ _ ?_
   clear hK K
   go_wp2
   exact ⟨⟨k + 1, by omega, by go_num, hnw.trans hq2⟩, by simp [intOf]; omega⟩
 have r1 := hnw.cell cX7
 have r2 := hnw.cell cY7
 have r3 := hnw.cell cX5
 have r4 := hnw.cell cY5
 have r5 := hnw.cell cX6
 have r6 := hnw.cell cY6
 go_wp2
 go_ret
 exact ⟨rfl, (qA.trans hp4).trans hnw⟩
end Go.Proofs.YtcepdjlknalmnaaGreatDoor

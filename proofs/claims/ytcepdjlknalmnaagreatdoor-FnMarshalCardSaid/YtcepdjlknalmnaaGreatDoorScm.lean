/- The thin package's medium, to the package. Written by a small program of this claim's own (genscm). -/
import Derived.Test.YtcepdjlknalmnaaGreatDoorScb
import Derived.Test.YtcepdjlknalmnaaGreatDoorImc
namespace Go.Proofs.YtcepdjlknalmnaaGreatDoor
open Go.RowKit
set_option linter.unusedSimpArgs false
set_option linter.unusedVariables false
attribute [local go_sem ↓] Go.wp_at_zero Go.wp_at_succ
structure MedTo (x : Med) : Prop where
 ports : x.ports.length ≤ 1
 title : x.title.length ≤ 1
 key : x.key.length ≤ 1
 conn : ConOne x.conn
 protos : x.protos.length ≤ 2147483647
 fmts : x.fmts.length ≤ 2147483647
 bws : x.bws.length ≤ 2147483647
 atts : x.atts.length ≤ 2147483647
set_option maxRecDepth 100000 in
set_option maxHeartbeats 1000000 in
theorem to_med (x : Med) (v0 v1 v2 v3 v4 v5 v6 v7 : Value) (w : World) (m : MedAt w x v0 v1 v2 v3 v4 v5 v6 v7) (ho : MedTo x) :
 Calls Tryz.prog 85 #[.agg #[.string x.name, .int .i64 x.port, v0, v1, v2, v3, v4, v5, v6, v7]] w fun e w' => ∃ g, e = .returned (.pointer (some ⟨g, 0, none⟩)) ∧ Foot (fun W => tyPMed.At W [x] g 0) w' (fun k => w.heap.size ≤ k) ∧ Nw w w' := by
 obtain ⟨A0, n0, rfl⟩ := Ty.Sl_form m.ports
 obtain ⟨A1, n1, rfl⟩ := Ty.Sl_form m.protos
 obtain ⟨A2, n2, rfl⟩ := Ty.Sl_form m.fmts
 obtain ⟨A3, n3, rfl⟩ := Ty.Sl_form m.title
 obtain ⟨A4, n4, rfl⟩ := Ty.Sl_form m.conn
 obtain ⟨A5, n5, rfl⟩ := Ty.Sl_form m.bws
 obtain ⟨A6, n6, rfl⟩ := Ty.Sl_form m.key
 obtain ⟨A7, n7, rfl⟩ := Ty.Sl_form m.atts
 have M := Lib.hid m
 have HO := Lib.hid ho
 clear m ho
 obtain ⟨gb, hgb⟩ : ∃ g, g = w.heap.size := ⟨_, rfl⟩
 obtain ⟨w0, hw0⟩ : ∃ w0, w0 = w.alloc (.cells #[.string x.name, .int .i64 x.port, .slice A0 x.ports.length n0, .slice A1 x.protos.length n1, .slice A2 x.fmts.length n2, .slice A3 x.title.length n3, .slice A4 x.conn.length n4, .slice A5 x.bws.length n5, .slice A6 x.key.length n6, .slice A7 x.atts.length n7] 84) := ⟨_, rfl⟩
 have q0 : Nw w w0 := by rw [hw0]; exact (Nw.refl w).alloc _
 have H0 : Blk w0 gb [.string x.name, .int .i64 x.port, .slice A0 x.ports.length n0, .slice A1 x.protos.length n1, .slice A2 x.fmts.length n2, .slice A3 x.title.length n3, .slice A4 x.conn.length n4, .slice A5 x.bws.length n5, .slice A6 x.key.length n6, .slice A7 x.atts.length n7] 84 := by rw [hw0, hgb]; exact Blk.made w _ 84
 go_enter Tryz.func85, Tryz.ntmps85
 go_upto_region 1 with fail
 rw [← hw0, ← hgb]
 clear hw0 hgb
 refine wp_region_Z 32 (fun w' => w'.cell? ⟨gb, 0, none⟩ = some (.string x.name) ∧ w'.cell? ⟨gb, 1, none⟩ = some (.int .i64 x.port) ∧ w'.cell? ⟨gb, 2, none⟩ = some (.slice A0 x.ports.length n0) ∧ w'.cell? ⟨gb, 3, none⟩ = some (.slice A1 x.protos.length n1) ∧ w'.cell? ⟨gb, 4, none⟩ = some (.slice A2 x.fmts.length n2) ∧ w'.cell? ⟨gb, 5, none⟩ = some (.slice A3 x.title.length n3) ∧ w'.cell? ⟨gb, 6, none⟩ = some (.slice A4 x.conn.length n4) ∧ w'.cell? ⟨gb, 7, none⟩ = some (.slice A5 x.bws.length n5) ∧ w'.cell? ⟨gb, 8, none⟩ = some (.slice A6 x.key.length n6) ∧ w'.cell? ⟨gb, 9, none⟩ = some (.slice A7 x.atts.length n7)) (by kernel_rfl) ⟨H0.cell 0 rfl, H0.cell 1 rfl, H0.cell 2 rfl, H0.cell 3 rfl, H0.cell 4 rfl, H0.cell 5 rfl, H0.cell 6 rfl, H0.cell 7 rfl, H0.cell 8 rfl, H0.cell 9 rfl⟩ (fun hHeld => ?_)
 obtain ⟨z0, hz0⟩ : ∃ z, z = w0.drew := ⟨_, rfl⟩
 have r0 : Nw w0 z0 := by rw [hz0]; exact (Nw.refl w0).drew
 rw [← hz0] at hHeld ⊢
 clear hz0
 have p0 := q0.trans r0
 refine' tkA 0 [32] hHeld ?_
 refine' tkA 1 [32] hHeld ?_
 refine' tkA 2 [32] hHeld ?_
 refine' tkA 3 [32] hHeld ?_
 refine' tkA 4 [32] hHeld ?_
 refine' tkA 5 [32] hHeld ?_
 refine' tkA 8 [32] hHeld ?_
 refine' tkA 9 [32] hHeld ?_
 refine' tkA 11 [32] hHeld ?_
 refine' tkA 12 [32] hHeld ?_
 refine' tkA 15 [32] hHeld ?_
 refine' tkA 16 [32] hHeld ?_
 refine' tkA 18 [32] hHeld ?_
 refine' tkA 19 [32] hHeld ?_
 refine' tkA 21 [32] hHeld ?_
 refine' tkA 22 [32] hHeld ?_
 refine' tkA 24 [32] hHeld ?_
 refine' tkA 25 [32] hHeld ?_
 refine' tkA 27 [32] hHeld ?_
 refine' tkA 28 [32] hHeld ?_
 try simp only [Act.put, List.setIfInBounds_toArray, List.set_cons_zero, List.set_cons_succ]
 refine' stZ1 6 (by kernel_rfl) rfl (by decide) (fun K hK => ?_)
 (go_simp; go_at_call 125; (with_reducible refine (to_num x.ports _ _ (Ty.Sl_loc (Nw.block (w := w) p0) M.out.ports) HO.out.ports).mono ?_); rintro r z1 ⟨p1, rfl, hF1, hn1⟩)
 obtain ⟨E1, rfl⟩ := Ty.Pt_form hF1.now
 have r1 := r0.trans hn1
 have p1 := p0.trans hn1
 have s1 := hn1.size
 refine hK.out _ _ ?_ (fun hHeld => ?_)
 · exact ⟨(H0.nw r1).cell 0 rfl, (H0.nw r1).cell 1 rfl, (H0.nw r1).cell 2 rfl, (H0.nw r1).cell 3 rfl, (H0.nw r1).cell 4 rfl, (H0.nw r1).cell 5 rfl, (H0.nw r1).cell 6 rfl, (H0.nw r1).cell 7 rfl, (H0.nw r1).cell 8 rfl, (H0.nw r1).cell 9 rfl⟩
 clear hK K
 refine' tkA 7 [32] hHeld ?_
 try simp only [Act.put, List.setIfInBounds_toArray, List.set_cons_zero, List.set_cons_succ]
 refine' stZ1 10 (by kernel_rfl) rfl (by decide) (fun K hK => ?_)
 (go_simp; go_at_call 124; (with_reducible refine (imp_cloneS x.protos _ _ (Ty.Sl_loc (Nw.block (w := w) p1) M.out.protos) HO.out.protos).mono ?_); rintro r z2 ⟨p2, rfl, hF2, hn2⟩)
 obtain ⟨E2, e2, rfl⟩ := Ty.Sl_form hF2.now
 have r2 := r1.trans hn2
 have p2 := p1.trans hn2
 have s2 := hn2.size
 refine hK.out _ _ ?_ (fun hHeld => ?_)
 · exact ⟨(H0.nw r2).cell 0 rfl, (H0.nw r2).cell 1 rfl, (H0.nw r2).cell 2 rfl, (H0.nw r2).cell 3 rfl, (H0.nw r2).cell 4 rfl, (H0.nw r2).cell 5 rfl, (H0.nw r2).cell 6 rfl, (H0.nw r2).cell 7 rfl, (H0.nw r2).cell 8 rfl, (H0.nw r2).cell 9 rfl⟩
 clear hK K
 try simp only [Act.put, List.setIfInBounds_toArray, List.set_cons_zero, List.set_cons_succ]
 refine' stZ1 13 (by kernel_rfl) rfl (by decide) (fun K hK => ?_)
 (go_simp; go_at_call 124; (with_reducible refine (imp_cloneS x.fmts _ _ (Ty.Sl_loc (Nw.block (w := w) p2) M.out.fmts) HO.out.fmts).mono ?_); rintro r z3 ⟨p3, rfl, hF3, hn3⟩)
 obtain ⟨E3, e3, rfl⟩ := Ty.Sl_form hF3.now
 have r3 := r2.trans hn3
 have p3 := p2.trans hn3
 have s3 := hn3.size
 refine hK.out _ _ ?_ (fun hHeld => ?_)
 · exact ⟨(H0.nw r3).cell 0 rfl, (H0.nw r3).cell 1 rfl, (H0.nw r3).cell 2 rfl, (H0.nw r3).cell 3 rfl, (H0.nw r3).cell 4 rfl, (H0.nw r3).cell 5 rfl, (H0.nw r3).cell 6 rfl, (H0.nw r3).cell 7 rfl, (H0.nw r3).cell 8 rfl, (H0.nw r3).cell 9 rfl⟩
 clear hK K
 refine' tkA 14 [32] hHeld ?_
 try simp only [Act.put, List.setIfInBounds_toArray, List.set_cons_zero, List.set_cons_succ]
 refine' stZ1 17 (by kernel_rfl) rfl (by decide) (fun K hK => ?_)
 (go_simp; go_at_call 77; (with_reducible refine (to_info x.title _ _ (Ty.Sl_loc (Nw.block (w := w) p3) M.out.title) HO.out.title).mono ?_); rintro r z4 ⟨p4, rfl, hF4, hn4⟩)
 obtain ⟨E4, rfl⟩ := Ty.Pt_form hF4.now
 have r4 := r3.trans hn4
 have p4 := p3.trans hn4
 have s4 := hn4.size
 refine hK.out _ _ ?_ (fun hHeld => ?_)
 · exact ⟨(H0.nw r4).cell 0 rfl, (H0.nw r4).cell 1 rfl, (H0.nw r4).cell 2 rfl, (H0.nw r4).cell 3 rfl, (H0.nw r4).cell 4 rfl, (H0.nw r4).cell 5 rfl, (H0.nw r4).cell 6 rfl, (H0.nw r4).cell 7 rfl, (H0.nw r4).cell 8 rfl, (H0.nw r4).cell 9 rfl⟩
 clear hK K
 try simp only [Act.put, List.setIfInBounds_toArray, List.set_cons_zero, List.set_cons_succ]
 refine' stZ1 20 (by kernel_rfl) rfl (by decide) (fun K hK => ?_)
 (go_simp; go_at_call 81; (with_reducible refine (to_con x.conn _ _ (Ty.Sl_loc (Nw.block (w := w) p4) M.out.conn) HO.out.conn).mono ?_); rintro r z5 ⟨p5, rfl, hF5, hn5⟩)
 obtain ⟨E5, rfl⟩ := Ty.Pt_form hF5.now
 have r5 := r4.trans hn5
 have p5 := p4.trans hn5
 have s5 := hn5.size
 refine hK.out _ _ ?_ (fun hHeld => ?_)
 · exact ⟨(H0.nw r5).cell 0 rfl, (H0.nw r5).cell 1 rfl, (H0.nw r5).cell 2 rfl, (H0.nw r5).cell 3 rfl, (H0.nw r5).cell 4 rfl, (H0.nw r5).cell 5 rfl, (H0.nw r5).cell 6 rfl, (H0.nw r5).cell 7 rfl, (H0.nw r5).cell 8 rfl, (H0.nw r5).cell 9 rfl⟩
 clear hK K
 try simp only [Act.put, List.setIfInBounds_toArray, List.set_cons_zero, List.set_cons_succ]
 refine' stZ1 23 (by kernel_rfl) rfl (by decide) (fun K hK => ?_)
 (go_simp; go_at_call 82; (with_reducible refine (to_bw x.bws _ _ (Ty.Sl_loc (Nw.block (w := w) p5) M.out.bws) HO.out.bws).mono ?_); rintro r z6 ⟨p6, rfl, hF6, hn6⟩)
 obtain ⟨E6, e6, rfl⟩ := Ty.Sl_form hF6.now
 have r6 := r5.trans hn6
 have p6 := p5.trans hn6
 have s6 := hn6.size
 refine hK.out _ _ ?_ (fun hHeld => ?_)
 · exact ⟨(H0.nw r6).cell 0 rfl, (H0.nw r6).cell 1 rfl, (H0.nw r6).cell 2 rfl, (H0.nw r6).cell 3 rfl, (H0.nw r6).cell 4 rfl, (H0.nw r6).cell 5 rfl, (H0.nw r6).cell 6 rfl, (H0.nw r6).cell 7 rfl, (H0.nw r6).cell 8 rfl, (H0.nw r6).cell 9 rfl⟩
 clear hK K
 try simp only [Act.put, List.setIfInBounds_toArray, List.set_cons_zero, List.set_cons_succ]
 refine' stZ1 26 (by kernel_rfl) rfl (by decide) (fun K hK => ?_)
 (go_simp; go_at_call 83; (with_reducible refine (to_key x.key _ _ (Ty.Sl_loc (Nw.block (w := w) p6) M.out.key) HO.out.key).mono ?_); rintro r z7 ⟨p7, rfl, hF7, hn7⟩)
 obtain ⟨E7, rfl⟩ := Ty.Pt_form hF7.now
 have r7 := r6.trans hn7
 have p7 := p6.trans hn7
 have s7 := hn7.size
 refine hK.out _ _ ?_ (fun hHeld => ?_)
 · exact ⟨(H0.nw r7).cell 0 rfl, (H0.nw r7).cell 1 rfl, (H0.nw r7).cell 2 rfl, (H0.nw r7).cell 3 rfl, (H0.nw r7).cell 4 rfl, (H0.nw r7).cell 5 rfl, (H0.nw r7).cell 6 rfl, (H0.nw r7).cell 7 rfl, (H0.nw r7).cell 8 rfl, (H0.nw r7).cell 9 rfl⟩
 clear hK K
 try simp only [Act.put, List.setIfInBounds_toArray, List.set_cons_zero, List.set_cons_succ]
 refine' stZ1 29 (by kernel_rfl) rfl (by decide) (fun K hK => ?_)
 (go_simp; go_at_call 84; (with_reducible refine (to_att x.atts _ _ (Ty.Sl_loc (Nw.block (w := w) p7) M.out.atts) HO.out.atts).mono ?_); rintro r z8 ⟨p8, rfl, hF8, hn8⟩)
 obtain ⟨E8, e8, rfl⟩ := Ty.Sl_form hF8.now
 have r8 := r7.trans hn8
 have p8 := p7.trans hn8
 have s8 := hn8.size
 refine hK.out _ _ ?_ (fun hHeld => ?_)
 · exact ⟨(H0.nw r8).cell 0 rfl, (H0.nw r8).cell 1 rfl, (H0.nw r8).cell 2 rfl, (H0.nw r8).cell 3 rfl, (H0.nw r8).cell 4 rfl, (H0.nw r8).cell 5 rfl, (H0.nw r8).cell 6 rfl, (H0.nw r8).cell 7 rfl, (H0.nw r8).cell 8 rfl, (H0.nw r8).cell 9 rfl⟩
 clear hK K
 refine' tkA 30 [32] hHeld ?_
 try simp only [Act.put, List.setIfInBounds_toArray, List.set_cons_zero, List.set_cons_succ]
 refine' stZ1 31 (by kernel_rfl) rfl (by decide) (fun K hK => ?_)
 go_simp
 obtain ⟨g, z9, hG, hs9, hge, e1', e2'⟩ := new_blk z8 [.string x.name, .int .i64 x.port, .pointer E1, .slice E2 x.protos.length e2, .slice E3 x.fmts.length e3, .pointer E4, .pointer E5, .slice E6 x.bws.length e6, .pointer E7, .slice E8 x.atts.length e8] 206
 rw [← e1', ← e2']
 clear e1' e2'
 have r9 := r8.trans hs9
 have p9 := p8.trans hs9
 refine hK.out _ _ ?_ (fun hHeld => ?_)
 · exact ⟨(H0.nw r9).cell 0 rfl, (H0.nw r9).cell 1 rfl, (H0.nw r9).cell 2 rfl, (H0.nw r9).cell 3 rfl, (H0.nw r9).cell 4 rfl, (H0.nw r9).cell 5 rfl, (H0.nw r9).cell 6 rfl, (H0.nw r9).cell 7 rfl, (H0.nw r9).cell 8 rfl, (H0.nw r9).cell 9 rfl⟩
 clear hK K
 try simp only [Act.put, List.setIfInBounds_toArray, List.set_cons_zero, List.set_cons_succ]
 refine' stZ_last (by kernel_rfl) rfl (by kernel_rfl) (fun K hK => ?_)
 go_simp
 refine hK.out _ _ ?_
 clear hK K
 go_wp2
 go_ret
 have s0 := p0.size
 have F1 := hF1.fr (((((((((hn2.trans hn3).trans hn4).trans hn5).trans hn6).trans hn7).trans hn8).trans hs9)).fr (fun _ => False)) (fun k hk hok e => e)
 have F2 := hF2.fr ((((((((hn3.trans hn4).trans hn5).trans hn6).trans hn7).trans hn8).trans hs9)).fr (fun _ => False)) (fun k hk hok e => e)
 have F3 := hF3.fr (((((((hn4.trans hn5).trans hn6).trans hn7).trans hn8).trans hs9)).fr (fun _ => False)) (fun k hk hok e => e)
 have F4 := hF4.fr ((((((hn5.trans hn6).trans hn7).trans hn8).trans hs9)).fr (fun _ => False)) (fun k hk hok e => e)
 have F5 := hF5.fr (((((hn6.trans hn7).trans hn8).trans hs9)).fr (fun _ => False)) (fun k hk hok e => e)
 have F6 := hF6.fr ((((hn7.trans hn8).trans hs9)).fr (fun _ => False)) (fun k hk hok e => e)
 have F7 := hF7.fr (((hn8.trans hs9)).fr (fun _ => False)) (fun k hk hok e => e)
 have F8 := hF8.fr ((hs9).fr (fun _ => False)) (fun k hk hok e => e)
 have lt := Blk.lt hG
 exact ⟨g, rfl, fun W hW => Ty.At_blk ⟨_, _, _, _, _, _, _, _, rfl, ⟨M.out.name, M.out.port, F1 W (fun k hk hlt => hW k (by have := hk.1; omega) hlt), F2 W (fun k hk hlt => hW k (by have := hk.1; omega) hlt), F3 W (fun k hk hlt => hW k (by have := hk.1; omega) hlt), F4 W (fun k hk hlt => hW k (by have := hk.1; omega) hlt), F5 W (fun k hk hlt => hW k (by have := hk.1; omega) hlt), F6 W (fun k hk hlt => hW k (by have := hk.1; omega) hlt), F7 W (fun k hk hlt => hW k (by have := hk.1; omega) hlt), F8 W (fun k hk hlt => hW k (by have := hk.1; omega) hlt)⟩⟩ ((hW g (by omega) lt).trans hG), p9⟩
end Go.Proofs.YtcepdjlknalmnaaGreatDoor

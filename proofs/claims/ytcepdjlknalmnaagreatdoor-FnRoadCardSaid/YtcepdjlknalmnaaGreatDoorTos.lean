/- The thin package's session, to the package. Written by a small program of this claim's own (gentos). -/
import Derived.Test.YtcepdjlknalmnaaGreatDoorScm
import Derived.Test.YtcepdjlknalmnaaGreatDoorFin
import Derived.Test.YtcepdjlknalmnaaGreatDoorSes
set_option linter.unusedSimpArgs false
set_option linter.unusedVariables false
namespace Go.Proofs.YtcepdjlknalmnaaGreatDoor
open Tryz
open Lib (hid)
open Go.RowKit
attribute [local go_sem ↓] Go.wp_at_zero Go.wp_at_succ
theorem timt (a b : Int) (A : Option Addr) (n c : Nat) : ([.int .u64 a, .int .u64 b, .slice A n c] : List Value).length = 3 /\ ∀ u ∈ ([.int .u64 a, .int .u64 b, .slice A n c] : List Value), u.oneCell' = true := by
 refine ⟨rfl, fun u hu => ?_⟩
 simp only [List.mem_cons, List.not_mem_nil, or_false] at hu
 rcases hu with rfl | rfl | rfl <;> rfl
theorem rept (a b : Int) (A : Option Addr) (n c : Nat) : ([.int .i64 a, .int .i64 b, .slice A n c] : List Value).length = 3 /\ ∀ u ∈ ([.int .i64 a, .int .i64 b, .slice A n c] : List Value), u.oneCell' = true := by
 refine ⟨rfl, fun u hu => ?_⟩
 simp only [List.mem_cons, List.not_mem_nil, or_false] at hu
 rcases hu with rfl | rfl | rfl <;> rfl
theorem zont (a b : Int) : ([.int .u64 a, .int .i64 b] : List Value).length = 2 /\ ∀ u ∈ ([.int .u64 a, .int .i64 b] : List Value), u.oneCell' = true := by
 refine ⟨rfl, fun u hu => ?_⟩
 simp only [List.mem_cons, List.not_mem_nil, or_false] at hu
 rcases hu with rfl | rfl <;> rfl
theorem medt (g : Nat) : ([.pointer (some ⟨g, 0, none⟩)] : List Value).length = 1 /\ ∀ u ∈ ([.pointer (some ⟨g, 0, none⟩)] : List Value), u.oneCell' = true :=
 ⟨rfl, fun u hu => by rw [List.mem_singleton.1 hu]; rfl⟩
theorem qCz {Q : World -> Prop} {c z wc : World} {g4 n0 : Nat} (h : qAq Q z (fun k => c.heap.size <= k)) (hf : Nw z wc) (h0 : n0 <= c.heap.size) (hg : z.heap.size <= g4) : qAq Q wc (fun k => n0 <= k /\ ¬ k = g4) :=
 (h.fr (hf.fr (fun _ => False)) (fun k hk hok e => e)).mono (fun k _ e => ⟨by omega, by omega⟩)
theorem built115 (ver : Int) (s0 s1 s2 s3 s4 : ByteArray) (i0 i1 : Int) (p1 p2 p3 p4 p5 p7 A6 A8 : Option Addr) (n6 c6 n8 c8 : Nat) :
 prog.built 115 [(0, .int .i64 ver), (1, .agg #[.string s0, .int .u64 i0, .int .u64 i1, .string s1, .string s2, .string s3]), (2, .string s4), (3, .pointer p1), (4, .pointer p2), (5, .pointer p3), (6, .pointer p4), (7, .pointer p5), (8, .slice A6 n6 c6), (11, .pointer p7), (12, .slice A8 n8 c8)] =
  some #[.int .i64 ver, .string s0, .int .u64 i0, .int .u64 i1, .string s1, .string s2, .string s3, .string s4, .pointer p1, .pointer p2, .pointer p3, .pointer p4, .pointer p5, .slice A6 n6 c6, .slice none 0 0, .slice none 0 0, .pointer p7, .slice A8 n8 c8, .slice none 0 0] := by kernel_rfl
set_option maxRecDepth 100000 in
set_option maxHeartbeats 4000000 in
theorem qL7 (x : Ssn) (w : World) (v0 v1 v2 v3 v4 v5 v6 v7 v8 v9 v10 : Value) (m : SsnAt w x v0 v1 v2 v3 v4 v5 v6 v7 v8 v9 v10) (ho : SsnOne x) (hc1 : qLf x.conn)
 (hl : x.bws.length <= 2147483647 /\ x.atts.length <= 2147483647 /\ x.times.length <= 2147483647 /\ x.zones.length <= 2147483647 /\ x.media.length <= 2147483647) (hlt : ∀ t ∈ x.times, t.reps.length <= 2147483647 /\ ∀ r ∈ t.reps, r.offs.length <= 2147483647)
 (hlm : ∀ y ∈ x.media, MedTo y) :
 Calls prog 52 #[qBv x v0 v1 v2 v3 v4 v5 v6 v7 v8 v9 v10] w fun e w' => ∃ D, e = .returned (.pointer (some ⟨D, 0, none⟩)) /\ w.heap.size <= D /\ qN5 w' D x /\ Nw w w' := by
 unfold qBv
 obtain ⟨A0, n0, rfl⟩ := Ty.Sl_form m.info
 obtain ⟨A1, n1, rfl⟩ := Ty.Sl_form m.uri
 obtain ⟨A2, n2, rfl⟩ := Ty.Sl_form m.email
 obtain ⟨A3, n3, rfl⟩ := Ty.Sl_form m.phone
 obtain ⟨A4, n4, rfl⟩ := Ty.Sl_form m.conn
 obtain ⟨A5, n5, rfl⟩ := Ty.Sl_form m.bws
 obtain ⟨A6, n6, rfl⟩ := Ty.Sl_form m.times
 obtain ⟨A7, n7, rfl⟩ := Ty.Sl_form m.zones
 obtain ⟨A8, n8, rfl⟩ := Ty.Sl_form m.key
 obtain ⟨A9, n9, rfl⟩ := Ty.Sl_form m.atts
 obtain ⟨A10, n10, rfl⟩ := Ty.Sl_form m.media
 have HM := hid m
 have HO := hid ho
 have HC := hid hc1
 have HLT := hid hlt
 have HLM := hid hlm
 have HLL := hid hl
 have hl3 := hl.2.2
 clear m ho hc1 hlt hlm hl
 obtain ⟨gb, hgb⟩ : ∃ g, g = w.heap.size := ⟨_, rfl⟩
 obtain ⟨w0, hw0⟩ : ∃ w0, w0 = w.alloc (.cells #[.int .i64 x.ver, .string x.org.user, .int .u64 x.org.id, .int .u64 x.org.ver, .string x.org.net, .string x.org.addr, .string x.org.adr, .string x.name, .slice A0 x.info.length n0, .slice A1 x.uri.length n1, .slice A2 x.email.length n2, .slice A3 x.phone.length n3, .slice A4 x.conn.length n4, .slice A5 x.bws.length n5, .slice A6 x.times.length n6, .slice A7 x.zones.length n7, .slice A8 x.key.length n8, .slice A9 x.atts.length n9, .slice A10 x.media.length n10] 33) := ⟨_, rfl⟩
 have q0 : Nw w w0 := by rw [hw0]; exact (Nw.refl w).alloc _
 have H0 : Blk w0 gb [.int .i64 x.ver, .string x.org.user, .int .u64 x.org.id, .int .u64 x.org.ver, .string x.org.net, .string x.org.addr, .string x.org.adr, .string x.name, .slice A0 x.info.length n0, .slice A1 x.uri.length n1, .slice A2 x.email.length n2, .slice A3 x.phone.length n3, .slice A4 x.conn.length n4, .slice A5 x.bws.length n5, .slice A6 x.times.length n6, .slice A7 x.zones.length n7, .slice A8 x.key.length n8, .slice A9 x.atts.length n9, .slice A10 x.media.length n10] 33 := by rw [hw0, hgb]; exact Blk.made w _ 33
 have hbw : w.heap.size <= gb := by omega
 go_enter func52, ntmps52
 go_upto_region 1 with fail
 rw [<- hw0, <- hgb]
 clear hw0 hgb
 refine qAv 49 (fun w' => w'.cell? ⟨gb, 0, none⟩ = some (.int .i64 x.ver) /\ w'.cell? ⟨gb, 1, none⟩ = some (.string x.org.user) /\ w'.cell? ⟨gb, 2, none⟩ = some (.int .u64 x.org.id) /\ w'.cell? ⟨gb, 3, none⟩ = some (.int .u64 x.org.ver) /\ w'.cell? ⟨gb, 4, none⟩ = some (.string x.org.net) /\ w'.cell? ⟨gb, 5, none⟩ = some (.string x.org.addr) /\ w'.cell? ⟨gb, 6, none⟩ = some (.string x.org.adr) /\ w'.cell? ⟨gb, 7, none⟩ = some (.string x.name) /\ w'.cell? ⟨gb, 8, none⟩ = some (.slice A0 x.info.length n0) /\ w'.cell? ⟨gb, 9, none⟩ = some (.slice A1 x.uri.length n1) /\ w'.cell? ⟨gb, 10, none⟩ = some (.slice A2 x.email.length n2) /\ w'.cell? ⟨gb, 11, none⟩ = some (.slice A3 x.phone.length n3) /\ w'.cell? ⟨gb, 12, none⟩ = some (.slice A4 x.conn.length n4) /\ w'.cell? ⟨gb, 13, none⟩ = some (.slice A5 x.bws.length n5) /\ w'.cell? ⟨gb, 16, none⟩ = some (.slice A8 x.key.length n8) /\ w'.cell? ⟨gb, 17, none⟩ = some (.slice A9 x.atts.length n9)) (by kernel_rfl) ⟨H0.cell 0 rfl, H0.cell 1 rfl, H0.cell 2 rfl, H0.cell 3 rfl, H0.cell 4 rfl, H0.cell 5 rfl, H0.cell 6 rfl, H0.cell 7 rfl, H0.cell 8 rfl, H0.cell 9 rfl, H0.cell 10 rfl, H0.cell 11 rfl, H0.cell 12 rfl, H0.cell 13 rfl, H0.cell 16 rfl, H0.cell 17 rfl⟩ (fun hHeld => ?_)
 obtain ⟨z0, hz0⟩ : ∃ z, z = w0.drew := ⟨_, rfl⟩
 have r0 : Nw w0 z0 := by rw [hz0]; exact (Nw.refl w0).drew
 rw [<- hz0] at hHeld ⊢
 clear hz0
 have p0 := q0.trans r0
 refine' tkA 0 [49] hHeld ?_
 refine' tkA 1 [49] hHeld ?_
 refine' tkA 2 [49] hHeld ?_
 refine' tkA 3 [49] hHeld ?_
 refine' tkA 4 [49] hHeld ?_
 refine' tkA 5 [49] hHeld ?_
 refine' tkA 6 [49] hHeld ?_
 refine' tkA 7 [49] hHeld ?_
 refine' tkA 8 [49] hHeld ?_
 refine' tkA 9 [49] hHeld ?_
 refine' tkA 10 [49] hHeld ?_
 refine' tkA 11 [49] hHeld ?_
 refine' tkA 12 [49] hHeld ?_
 refine' tkA 13 [49] hHeld ?_
 refine' tkA 14 [49] hHeld ?_
 refine' tkA 15 [49] hHeld ?_
 refine' tkA 16 [49] hHeld ?_
 refine' tkA 17 [49] hHeld ?_
 refine' tkA 18 [49] hHeld ?_
 refine' tkA 19 [49] hHeld ?_
 refine' tkA 20 [49] hHeld ?_
 refine' tkA 21 [49] hHeld ?_
 refine' tkA 22 [49] hHeld ?_
 refine' tkA 23 [49] hHeld ?_
 refine' tkA 24 [49] hHeld ?_
 refine' tkA 26 [49] hHeld ?_
 refine' tkA 27 [49] hHeld ?_
 refine' tkA 29 [49] hHeld ?_
 refine' tkA 30 [49] hHeld ?_
 refine' tkA 32 [49] hHeld ?_
 refine' tkA 33 [49] hHeld ?_
 refine' tkA 35 [49] hHeld ?_
 refine' tkA 36 [49] hHeld ?_
 refine' tkA 38 [49] hHeld ?_
 refine' tkA 39 [49] hHeld ?_
 refine' tkA 41 [49] hHeld ?_
 refine' tkA 42 [49] hHeld ?_
 refine' tkA 44 [49] hHeld ?_
 refine' tkA 45 [49] hHeld ?_
 try simp only [sP]
 refine' qB9 25 (by kernel_rfl) rfl (by decide) (fun K hK => ?_)
 (go_simp; go_at_call 77; (with_reducible refine (qQ0 x.info _ _ (Ty.Sl_loc (Nw.block (w := w) p0) HM.out.info) HO.out.info).mono ?_); rintro r z1 ⟨p1, rfl, hF1, hn1⟩)
 obtain ⟨E1, rfl⟩ := Ty.Pt_form hF1.now
 have r1 := r0.trans hn1
 have p1 := p0.trans hn1
 have s1 := hn1.size
 refine hK.out _ _ ?_ (fun hHeld => ?_)
 · exact ⟨(H0.nw r1).cell 0 rfl, (H0.nw r1).cell 1 rfl, (H0.nw r1).cell 2 rfl, (H0.nw r1).cell 3 rfl, (H0.nw r1).cell 4 rfl, (H0.nw r1).cell 5 rfl, (H0.nw r1).cell 6 rfl, (H0.nw r1).cell 7 rfl, (H0.nw r1).cell 8 rfl, (H0.nw r1).cell 9 rfl, (H0.nw r1).cell 10 rfl, (H0.nw r1).cell 11 rfl, (H0.nw r1).cell 12 rfl, (H0.nw r1).cell 13 rfl, (H0.nw r1).cell 16 rfl, (H0.nw r1).cell 17 rfl⟩
 clear hK K
 try simp only [sP]
 refine' qB9 28 (by kernel_rfl) rfl (by decide) (fun K hK => ?_)
 (go_simp; go_at_call 78; (with_reducible refine (to_url x.uri _ _ (Ty.Sl_loc (Nw.block (w := w) p1) HM.out.uri) HO.out.uri).mono ?_); rintro r z2 ⟨p2, rfl, hF2, hn2⟩)
 obtain ⟨E2, rfl⟩ := Ty.Pt_form hF2.now
 have r2 := r1.trans hn2
 have p2 := p1.trans hn2
 have s2 := hn2.size
 refine hK.out _ _ ?_ (fun hHeld => ?_)
 · exact ⟨(H0.nw r2).cell 0 rfl, (H0.nw r2).cell 1 rfl, (H0.nw r2).cell 2 rfl, (H0.nw r2).cell 3 rfl, (H0.nw r2).cell 4 rfl, (H0.nw r2).cell 5 rfl, (H0.nw r2).cell 6 rfl, (H0.nw r2).cell 7 rfl, (H0.nw r2).cell 8 rfl, (H0.nw r2).cell 9 rfl, (H0.nw r2).cell 10 rfl, (H0.nw r2).cell 11 rfl, (H0.nw r2).cell 12 rfl, (H0.nw r2).cell 13 rfl, (H0.nw r2).cell 16 rfl, (H0.nw r2).cell 17 rfl⟩
 clear hK K
 try simp only [sP]
 refine' qB9 31 (by kernel_rfl) rfl (by decide) (fun K hK => ?_)
 (go_simp; go_at_call 79; (with_reducible refine (to_mail x.email _ _ (Ty.Sl_loc (Nw.block (w := w) p2) HM.out.email) HO.out.email).mono ?_); rintro r z3 ⟨p3, rfl, hF3, hn3⟩)
 obtain ⟨E3, rfl⟩ := Ty.Pt_form hF3.now
 have r3 := r2.trans hn3
 have p3 := p2.trans hn3
 have s3 := hn3.size
 refine hK.out _ _ ?_ (fun hHeld => ?_)
 · exact ⟨(H0.nw r3).cell 0 rfl, (H0.nw r3).cell 1 rfl, (H0.nw r3).cell 2 rfl, (H0.nw r3).cell 3 rfl, (H0.nw r3).cell 4 rfl, (H0.nw r3).cell 5 rfl, (H0.nw r3).cell 6 rfl, (H0.nw r3).cell 7 rfl, (H0.nw r3).cell 8 rfl, (H0.nw r3).cell 9 rfl, (H0.nw r3).cell 10 rfl, (H0.nw r3).cell 11 rfl, (H0.nw r3).cell 12 rfl, (H0.nw r3).cell 13 rfl, (H0.nw r3).cell 16 rfl, (H0.nw r3).cell 17 rfl⟩
 clear hK K
 try simp only [sP]
 refine' qB9 34 (by kernel_rfl) rfl (by decide) (fun K hK => ?_)
 (go_simp; go_at_call 80; (with_reducible refine (to_phone x.phone _ _ (Ty.Sl_loc (Nw.block (w := w) p3) HM.out.phone) HO.out.phone).mono ?_); rintro r z4 ⟨p4, rfl, hF4, hn4⟩)
 obtain ⟨E4, rfl⟩ := Ty.Pt_form hF4.now
 have r4 := r3.trans hn4
 have p4 := p3.trans hn4
 have s4 := hn4.size
 refine hK.out _ _ ?_ (fun hHeld => ?_)
 · exact ⟨(H0.nw r4).cell 0 rfl, (H0.nw r4).cell 1 rfl, (H0.nw r4).cell 2 rfl, (H0.nw r4).cell 3 rfl, (H0.nw r4).cell 4 rfl, (H0.nw r4).cell 5 rfl, (H0.nw r4).cell 6 rfl, (H0.nw r4).cell 7 rfl, (H0.nw r4).cell 8 rfl, (H0.nw r4).cell 9 rfl, (H0.nw r4).cell 10 rfl, (H0.nw r4).cell 11 rfl, (H0.nw r4).cell 12 rfl, (H0.nw r4).cell 13 rfl, (H0.nw r4).cell 16 rfl, (H0.nw r4).cell 17 rfl⟩
 clear hK K
 try simp only [sP]
 refine' qB9 37 (by kernel_rfl) rfl (by decide) (fun K hK => ?_)
 (go_simp; go_at_call 81; (with_reducible refine (to_con x.conn _ _ (Ty.Sl_loc (Nw.block (w := w) p4) HM.out.conn) HC.out).mono ?_); rintro r z5 ⟨p5, rfl, hF5, hn5⟩)
 obtain ⟨E5, rfl⟩ := Ty.Pt_form hF5.now
 have r5 := r4.trans hn5
 have p5 := p4.trans hn5
 have s5 := hn5.size
 refine hK.out _ _ ?_ (fun hHeld => ?_)
 · exact ⟨(H0.nw r5).cell 0 rfl, (H0.nw r5).cell 1 rfl, (H0.nw r5).cell 2 rfl, (H0.nw r5).cell 3 rfl, (H0.nw r5).cell 4 rfl, (H0.nw r5).cell 5 rfl, (H0.nw r5).cell 6 rfl, (H0.nw r5).cell 7 rfl, (H0.nw r5).cell 8 rfl, (H0.nw r5).cell 9 rfl, (H0.nw r5).cell 10 rfl, (H0.nw r5).cell 11 rfl, (H0.nw r5).cell 12 rfl, (H0.nw r5).cell 13 rfl, (H0.nw r5).cell 16 rfl, (H0.nw r5).cell 17 rfl⟩
 clear hK K
 try simp only [sP]
 refine' qB9 40 (by kernel_rfl) rfl (by decide) (fun K hK => ?_)
 (go_simp; go_at_call 82; (with_reducible refine (to_bw x.bws _ _ (Ty.Sl_loc (Nw.block (w := w) p5) HM.out.bws) HLL.out.1).mono ?_); rintro r z6 ⟨p6, rfl, hF6, hn6⟩)
 obtain ⟨E6, e6, rfl⟩ := Ty.Sl_form hF6.now
 have r6 := r5.trans hn6
 have p6 := p5.trans hn6
 have s6 := hn6.size
 refine hK.out _ _ ?_ (fun hHeld => ?_)
 · exact ⟨(H0.nw r6).cell 0 rfl, (H0.nw r6).cell 1 rfl, (H0.nw r6).cell 2 rfl, (H0.nw r6).cell 3 rfl, (H0.nw r6).cell 4 rfl, (H0.nw r6).cell 5 rfl, (H0.nw r6).cell 6 rfl, (H0.nw r6).cell 7 rfl, (H0.nw r6).cell 8 rfl, (H0.nw r6).cell 9 rfl, (H0.nw r6).cell 10 rfl, (H0.nw r6).cell 11 rfl, (H0.nw r6).cell 12 rfl, (H0.nw r6).cell 13 rfl, (H0.nw r6).cell 16 rfl, (H0.nw r6).cell 17 rfl⟩
 clear hK K
 try simp only [sP]
 refine' qB9 43 (by kernel_rfl) rfl (by decide) (fun K hK => ?_)
 (go_simp; go_at_call 83; (with_reducible refine (to_key x.key _ _ (Ty.Sl_loc (Nw.block (w := w) p6) HM.out.key) HO.out.key).mono ?_); rintro r z7 ⟨p7, rfl, hF7, hn7⟩)
 obtain ⟨E7, rfl⟩ := Ty.Pt_form hF7.now
 have r7 := r6.trans hn7
 have p7 := p6.trans hn7
 have s7 := hn7.size
 refine hK.out _ _ ?_ (fun hHeld => ?_)
 · exact ⟨(H0.nw r7).cell 0 rfl, (H0.nw r7).cell 1 rfl, (H0.nw r7).cell 2 rfl, (H0.nw r7).cell 3 rfl, (H0.nw r7).cell 4 rfl, (H0.nw r7).cell 5 rfl, (H0.nw r7).cell 6 rfl, (H0.nw r7).cell 7 rfl, (H0.nw r7).cell 8 rfl, (H0.nw r7).cell 9 rfl, (H0.nw r7).cell 10 rfl, (H0.nw r7).cell 11 rfl, (H0.nw r7).cell 12 rfl, (H0.nw r7).cell 13 rfl, (H0.nw r7).cell 16 rfl, (H0.nw r7).cell 17 rfl⟩
 clear hK K
 try simp only [sP]
 refine' qB9 46 (by kernel_rfl) rfl (by decide) (fun K hK => ?_)
 (go_simp; go_at_call 84; (with_reducible refine (to_att x.atts _ _ (Ty.Sl_loc (Nw.block (w := w) p7) HM.out.atts) HLL.out.2.1).mono ?_); rintro r z8 ⟨p8, rfl, hF8, hn8⟩)
 obtain ⟨E8, e8, rfl⟩ := Ty.Sl_form hF8.now
 have r8 := r7.trans hn8
 have p8 := p7.trans hn8
 have s8 := hn8.size
 refine hK.out _ _ ?_ (fun hHeld => ?_)
 · exact ⟨(H0.nw r8).cell 0 rfl, (H0.nw r8).cell 1 rfl, (H0.nw r8).cell 2 rfl, (H0.nw r8).cell 3 rfl, (H0.nw r8).cell 4 rfl, (H0.nw r8).cell 5 rfl, (H0.nw r8).cell 6 rfl, (H0.nw r8).cell 7 rfl, (H0.nw r8).cell 8 rfl, (H0.nw r8).cell 9 rfl, (H0.nw r8).cell 10 rfl, (H0.nw r8).cell 11 rfl, (H0.nw r8).cell 12 rfl, (H0.nw r8).cell 13 rfl, (H0.nw r8).cell 16 rfl, (H0.nw r8).cell 17 rfl⟩
 clear hK K
 try simp only [sP]
 refine' qB9 47 (by kernel_rfl) rfl (by decide) (fun K hK => ?_)
 (refine qA3 rfl ?_; (refine qK8 115 _ [(0, .int .i64 x.ver), (1, .agg #[.string x.org.user, .int .u64 x.org.id, .int .u64 x.org.ver, .string x.org.net, .string x.org.addr, .string x.org.adr]), (2, .string x.name), (3, .pointer E1), (4, .pointer E2), (5, .pointer E3), (6, .pointer E4), (7, .pointer E5), (8, .slice E6 x.bws.length e6), (11, .pointer E7), (12, .slice E8 x.atts.length e8)] _ rfl (by simp [Act.eval]) (built115 _ _ _ _ _ _ _ _ _ _ _ _ _ _ _ _ _ _ _ _) ?_))
 refine hK.out _ _ ?_ (fun hHeld => ?_)
 · exact ⟨(H0.nw r8).cell 0 rfl, (H0.nw r8).cell 1 rfl, (H0.nw r8).cell 2 rfl, (H0.nw r8).cell 3 rfl, (H0.nw r8).cell 4 rfl, (H0.nw r8).cell 5 rfl, (H0.nw r8).cell 6 rfl, (H0.nw r8).cell 7 rfl, (H0.nw r8).cell 8 rfl, (H0.nw r8).cell 9 rfl, (H0.nw r8).cell 10 rfl, (H0.nw r8).cell 11 rfl, (H0.nw r8).cell 12 rfl, (H0.nw r8).cell 13 rfl, (H0.nw r8).cell 16 rfl, (H0.nw r8).cell 17 rfl⟩
 clear hK K
 try simp only [sP]
 refine' qB9 48 (by kernel_rfl) rfl (by decide) (fun K hK => ?_)
 go_simp
 obtain ⟨g4, wc, hB4, hs9, hg4, e1', e2'⟩ := qEm z8 [.int .i64 x.ver, .string x.org.user, .int .u64 x.org.id, .int .u64 x.org.ver, .string x.org.net, .string x.org.addr, .string x.org.adr, .string x.name, .pointer E1, .pointer E2, .pointer E3, .pointer E4, .pointer E5, .slice E6 x.bws.length e6, .slice none 0 0, .slice none 0 0, .pointer E7, .slice E8 x.atts.length e8, .slice none 0 0] 115
 rw [<- e1', <- e2']
 clear e1' e2'
 have r9 := r8.trans hs9
 have p9 := p8.trans hs9
 refine hK.out _ _ ?_ (fun hHeld => ?_)
 · exact ⟨(H0.nw r9).cell 0 rfl, (H0.nw r9).cell 1 rfl, (H0.nw r9).cell 2 rfl, (H0.nw r9).cell 3 rfl, (H0.nw r9).cell 4 rfl, (H0.nw r9).cell 5 rfl, (H0.nw r9).cell 6 rfl, (H0.nw r9).cell 7 rfl, (H0.nw r9).cell 8 rfl, (H0.nw r9).cell 9 rfl, (H0.nw r9).cell 10 rfl, (H0.nw r9).cell 11 rfl, (H0.nw r9).cell 12 rfl, (H0.nw r9).cell 13 rfl, (H0.nw r9).cell 16 rfl, (H0.nw r9).cell 17 rfl⟩
 clear hK K
 try simp only [sP]
 refine' qBr (by kernel_rfl) rfl (by kernel_rfl) (fun K hK => ?_)
 go_simp
 refine hK.out _ _ ?_
 clear hK K
 have s0 := r0.size
 have F1 := qCz (g4 := g4) (n0 := w0.heap.size) hF1 ((((((((hn2).trans hn3).trans hn4).trans hn5).trans hn6).trans hn7).trans hn8).trans hs9) (by omega) (by omega)
 have F2 := qCz (g4 := g4) (n0 := w0.heap.size) hF2 (((((((hn3).trans hn4).trans hn5).trans hn6).trans hn7).trans hn8).trans hs9) (by omega) (by omega)
 have F3 := qCz (g4 := g4) (n0 := w0.heap.size) hF3 ((((((hn4).trans hn5).trans hn6).trans hn7).trans hn8).trans hs9) (by omega) (by omega)
 have F4 := qCz (g4 := g4) (n0 := w0.heap.size) hF4 (((((hn5).trans hn6).trans hn7).trans hn8).trans hs9) (by omega) (by omega)
 have F5 := qCz (g4 := g4) (n0 := w0.heap.size) hF5 ((((hn6).trans hn7).trans hn8).trans hs9) (by omega) (by omega)
 have F6 := qCz (g4 := g4) (n0 := w0.heap.size) hF6 (((hn7).trans hn8).trans hs9) (by omega) (by omega)
 have F7 := qCz (g4 := g4) (n0 := w0.heap.size) hF7 ((hn8).trans hs9) (by omega) (by omega)
 have F8 := qCz (g4 := g4) (n0 := w0.heap.size) hF8 (hs9) (by omega) (by omega)
 have hN := r9
 have hW : Nw w wc := p9
 have d14 := (H0.nw hN).cell 14 rfl
 have hw0 : w.heap.size <= w0.heap.size := q0.size
 have hbg : ¬ gb = g4 := fun e => by have h1 := H0.lt; have h2 := r8.size; omega
 have hw04 : w0.heap.size <= g4 := by have h2 := r8.size; omega
 have hg4c := hB4.lt
 have HF1 := hid F1
 have HF2 := hid F2
 have HF3 := hid F3
 have HF4 := hid F4
 have HF5 := hid F5
 have HF6 := hid F6
 have HF7 := hid F7
 have HF8 := hid F8
 clear F1 F2 F3 F4 F5 F6 F7 F8 hF1 hF2 hF3 hF4 hF5 hF6 hF7 hF8 hn1 hn2 hn3 hn4 hn5 hn6 hn7 hn8 hs9 r0 r1 r2 r3 r4 r5 r6 r7 r8 r9 p0 p1 p2 p3 p4 p5 p6 p7 p8 p9 s0 s1 s2 s3 s4 s5 s6 s7 s8 hHeld
 go_wp2
 go_loopg [65] x.times.length (fun n i wr => ∃ (k : Nat) (tv : Value), k <= x.times.length /\ n = x.times.length - k /\ i = .int .i64 k /\ Blk wr g4 [.int .i64 x.ver, .string x.org.user, .int .u64 x.org.id, .int .u64 x.org.ver, .string x.org.net, .string x.org.addr, .string x.org.adr, .string x.name, .pointer E1, .pointer E2, .pointer E3, .pointer E4, .pointer E5, .slice E6 x.bws.length e6, tv, .slice none 0 0, .pointer E7, .slice E8 x.atts.length e8, .slice none 0 0] 115 /\ qAo qCc wr wc.heap.size 177 tv (x.times.take k) (fun k => wc.heap.size <= k) /\ Fr (fun k => k = g4) wc wr)
 case atStart => exact ⟨0, .slice none 0 0, Nat.zero_le _, rfl, rfl, hB4, qAo.nil _ _ _ _ _, Fr.refl _ _⟩
 obtain ⟨k, tv, hk, hn, rfl, hBk, hTk, hFk⟩ := hrel
 have HN := hid hn
 clear hn
 have hOld : ∀ (p : Addr) (u : Value), w.cell? p = some u -> wr.cell? p = some u := fun p u hc => hFk.cell (S := fun k => k = g4) (fun e => by have h1 := World.block_lt_of_cell? _ _ hc; have e' : p.block = g4 := e; omega) (hW.cell hc)
 have HOLD := hid hOld
 have hb0 : Blk wr gb [.int .i64 x.ver, .string x.org.user, .int .u64 x.org.id, .int .u64 x.org.ver, .string x.org.net, .string x.org.addr, .string x.org.adr, .string x.name, .slice A0 x.info.length n0, .slice A1 x.uri.length n1, .slice A2 x.email.length n2, .slice A3 x.phone.length n3, .slice A4 x.conn.length n4, .slice A5 x.bws.length n5, .slice A6 x.times.length n6, .slice A7 x.zones.length n7, .slice A8 x.key.length n8, .slice A9 x.atts.length n9, .slice A10 x.media.length n10] 33 := (H0.nw hN).fr hFk hbg
 clear hOld
 by_cases hlt : k < x.times.length
 · obtain ⟨b, o', rfl, ha⟩ := Ty.Sl_at HM.out.times k hlt
   obtain ⟨cs, ⟨v1, rfl, ht0, ht1, h1⟩, hx⟩ := ha k _ (List.getElem?_eq_getElem hlt)
   obtain ⟨Ar, cr, rfl⟩ := Ty.Sl_form h1
   have c0 := HOLD.out _ _ (hx 0 _ rfl)
   have c1 := HOLD.out _ _ (hx 1 _ rfl)
   have c2 := HOLD.out _ _ (hx 2 _ rfl)
   simp only [qCc, Nat.add_zero] at c0 c1 c2
   have HT := hid (qAt hlt)
   have hlt2 := HLT.out _ (List.getElem_mem hlt)
   clear hx ha
   obtain ⟨t, hte⟩ : ∃ t, t = x.times[k] := ⟨_, rfl⟩
   rw [<- hte] at c0 c1 c2 ht0 ht1 h1 HT hlt2
   clear hte hb0
   go_upto_region 6 with fail
   obtain ⟨wT, rfl⟩ : ∃ wT, wT = wr := ⟨_, rfl⟩
   obtain ⟨g7, hg7⟩ : ∃ g, g = wT.heap.size + 1 := ⟨_, rfl⟩
   obtain ⟨wB, hwB⟩ : ∃ wB, wB = (wT.alloc (.cells #[.int .u64 t.start, .int .u64 t.stop, .slice Ar t.reps.length cr] 71)).alloc (.cells #[.int .u64 t.start, .int .u64 t.stop, .slice none 0 0] 177) := ⟨_, rfl⟩
   have hqB : Nw wT wB := by rw [hwB]; exact ((Nw.refl wT).alloc _).alloc _
   have hG7 : Blk wB g7 [.int .u64 t.start, .int .u64 t.stop, .slice none 0 0] 177 := by rw [hwB, hg7]; exact Blk.made' (by simp) _ 177
   have hG6 : Blk wB wT.heap.size [.int .u64 t.start, .int .u64 t.stop, .slice Ar t.reps.length cr] 71 := by rw [hwB]; exact Blk.alloc (Blk.made wT _ 71) _
   have e2 := hG6.cell 2 rfl
   have hWT : Nw w wT := hW.frIn hFk (fun k e => by rw [e]; omega)
   have hWB : Nw w wB := hWT.trans hqB
   have hsT : wc.heap.size <= wT.heap.size := hFk.size
   have hwc : w.heap.size <= wc.heap.size := hW.size
   have hsB : wT.heap.size <= wB.heap.size := hqB.size
   rw [<- hwB, <- hg7]
   have HG7 := hid hg7
   have hg7w : wT.heap.size < g7 := by omega
   clear hwB hg7 c0 c1 c2
   go_wp2
   go_loopg [78] t.reps.length (fun n i wr => ∃ (j : Nat) (rv : Value), j <= t.reps.length /\ n = t.reps.length - j /\ i = .int .i64 j /\ Blk wr g7 [.int .u64 t.start, .int .u64 t.stop, rv] 177 /\ qAo qDc wr wB.heap.size 178 rv (t.reps.take j) (fun k => wB.heap.size <= k) /\ Fr (fun k => k = g7) wB wr)
   case atStart => exact ⟨0, .slice none 0 0, Nat.zero_le _, rfl, rfl, hG7, qAo.nil _ _ _ _ _, Fr.refl _ _⟩
   obtain ⟨j, rv, hj, hn', rfl, hBj, hRj, hFj⟩ := hrel
   have HN2 := hid hn'
   clear hn'
   by_cases hlt2' : j < t.reps.length
   · obtain ⟨b2, o2, rfl, ha2⟩ := Ty.Sl_at h1 j hlt2'
     obtain ⟨cs2, ⟨p2, rfl, hr0, hr1, hof⟩, hx2⟩ := ha2 j _ (List.getElem?_eq_getElem hlt2')
     obtain ⟨Ao, co, rfl⟩ := Ty.Sl_form hof
     have HOLD2 : ∀ (p : Addr) (u : Value), w.cell? p = some u -> wr.cell? p = some u := fun p u hc => hFj.cell (S := fun k => k = g7) (fun e => by have h1 := World.block_lt_of_cell? _ _ hc; have e' : p.block = g7 := e; omega) (hqB.cell (HOLD.out p u hc))
     have d0 := HOLD2 _ _ (hx2 0 _ rfl)
     have d1 := HOLD2 _ _ (hx2 1 _ rfl)
     have d2 := HOLD2 _ _ (hx2 2 _ rfl)
     simp only [qDc, Nat.add_zero] at d0 d1 d2
     have HT2 := hid (qAt hlt2')
     have hol := hlt2.2 _ (List.getElem_mem hlt2')
     have hjl : (t.reps.take j).length <= j := by simp; omega
     have hOw : tyI.Sl w t.reps[j].offs (.slice Ao t.reps[j].offs.length co) := hof
     clear hx2 ha2 HOLD2 hof
     obtain ⟨r, hre⟩ : ∃ r, r = t.reps[j] := ⟨_, rfl⟩
     rw [<- hre] at d0 d1 d2 hr0 hr1 HT2 hol hOw
     clear hre
     have hWr : Nw w wr := hWB.frIn hFj (fun k e => by rw [e]; omega)
     go_upto_region 9 with fail
     obtain ⟨wC, hwC⟩ : ∃ wC, wC = wr.alloc (.cells #[.int .i64 r.ivl, .int .i64 r.dur, .slice Ao r.offs.length co] 77) := ⟨_, rfl⟩
     obtain ⟨g9, hg9⟩ : ∃ g, g = wr.heap.size := ⟨_, rfl⟩
     have hqC : Nw wr wC := by rw [hwC]; exact (Nw.refl wr).alloc _
     have hG9 : Blk wC g9 [.int .i64 r.ivl, .int .i64 r.dur, .slice Ao r.offs.length co] 77 := by rw [hwC, hg9]; exact Blk.made wr _ 77
     have hBC := hBj.nw hqC
     have hWC : Nw w wC := hWr.trans hqC
     have hFC : Fr (fun k => k = g7) wB wC := hFj.trans (hqC.fr _)
     obtain ⟨rows, hrow, hrl, hrg⟩ := hRj
     have hrowC := hrow.nw hqC
     have hown : ∀ k, rv.ownBlock = some k -> wB.heap.size <= k /\ k < wr.heap.size := fun k hk => hrow.base k hk
     have hgB : g7 < wB.heap.size := hG7.lt
     have hneg : ¬ some g7 = rv.ownBlock := fun e => by have := (hown g7 e.symm).1; omega
     have hn9o : ¬ some g9 = rv.ownBlock := fun e => by have := (hown g9 e.symm).2; omega
     have hsC : wB.heap.size <= wC.heap.size := hFC.size
     have hrls : rows.length <= 2147483647 := by rw [hrl]; omega
     have hsrC : wr.heap.size <= wC.heap.size := hqC.size
     rw [<- hwC, <- hg9]
     have HG9 := hid hg9
     have HRG := hid hrg
     clear hwC hg9 hrow hrg d0 d1 d2
     refine qAv 13 (fun w' => w'.cell? ⟨g9, 0, none⟩ = some (.int .i64 r.ivl) /\ w'.cell? ⟨g9, 1, none⟩ = some (.int .i64 r.dur) /\ w'.cell? ⟨g9, 2, none⟩ = some (.slice Ao r.offs.length co) /\ w'.cell? ⟨g7, 2, none⟩ = some rv) (by kernel_rfl) ⟨hG9.cell 0 rfl, hG9.cell 1 rfl, hG9.cell 2 rfl, hBC.cell 2 rfl⟩ (fun hHeld => ?_)
     refine' tkA 0 [13] hHeld ?_
     refine' tkA 1 [13] hHeld ?_
     refine' tkA 2 [13] hHeld ?_
     refine' tkA 3 [13] hHeld ?_
     refine' tkA 4 [13] hHeld ?_
     refine' tkA 5 [13] hHeld ?_
     refine' tkA 6 [13] hHeld ?_
     refine' tkA 7 [13] hHeld ?_
     try simp only [sP]
     refine' qB9 8 (by kernel_rfl) rfl (by decide) (fun K hK => ?_)
     (go_simp; go_at_call 75; (with_reducible refine (qJi r.offs _ _ (Ty.Sl_loc (Nw.block (w := w) (Nw.trans hWC ((Nw.refl wC).drew))) hOw) hol).mono ?_); rintro e w5 ⟨v5, rfl, hs5, hn5⟩; have hp5 : Nw wC w5 := Nw.trans ((Nw.refl wC).drew) hn5; obtain ⟨A5, n5, rfl⟩ := Ty.Sl_form hs5.now; have hsz5 := hp5.size)
     refine hK.out _ _ ?_ (fun hHeld => ?_)
     · exact ⟨(hG9.nw hp5).cell 0 rfl, (hG9.nw hp5).cell 1 rfl, (hG9.nw hp5).cell 2 rfl, (hBC.nw hp5).cell 2 rfl⟩
     clear hK K
     try simp only [sP]
     refine' qB9 9 (by kernel_rfl) rfl (by decide) (fun K hK => ?_)
     go_simp
     refine hK.out _ _ ?_ (fun hHeld => ?_)
     · exact ⟨(hG9.nw hp5).cell 0 rfl, (hG9.nw hp5).cell 1 rfl, (hG9.nw hp5).cell 2 rfl, (hBC.nw hp5).cell 2 rfl⟩
     clear hK K
     try simp only [sP]
     refine' qB9 10 (by kernel_rfl) rfl (by decide) (fun K hK => ?_)
     go_simp
     refine hK.out _ _ ?_ (fun hHeld => ?_)
     · exact ⟨(hG9.nw (hp5.alloc _)).cell 0 rfl, (hG9.nw (hp5.alloc _)).cell 1 rfl, (hG9.nw (hp5.alloc _)).cell 2 rfl, (hBC.nw (hp5.alloc _)).cell 2 rfl⟩
     clear hK K
     try simp only [sP]
     refine' qB9 11 (by kernel_rfl) rfl (by decide) (fun K hK => ?_)
     ((refine qA3 rfl ?_; (with_reducible refine qAn wB.heap.size (.tmp 83) (.tmp 92) 175 178 3 (.agg #[.int .i64 0, .int .i64 0, .slice none 0 0]) 40 ?_ underlying175 inf178 ?_ ?_ rv rows [.int .i64 r.ivl, .int .i64 r.dur, .slice A5 r.offs.length n5] ?_ w5.heap.size ?_ (rept r.ivl r.dur A5 r.offs.length n5) ?_ ?_ ?_ ?_ ?_ ?_); (focus rfl); (focus rfl); (focus decide); (focus rfl); (focus rfl); (focus (exact fun j u hu => Blk.cell (Blk.made w5 [.int .i64 r.ivl, .int .i64 r.dur, .slice A5 r.offs.length n5] 178) j hu)); (focus (exact (hrowC.nw hp5).alloc _)); (focus (simp; omega)); (focus omega); (focus omega); intro v6 w6 hr6 hf6 ho6); obtain ⟨Av, cv, rfl, _⟩ := hr6.form; simp only [List.length_append, List.length_cons, List.length_nil, Nat.zero_add] at hr6 ho6; have hB6 := ((hBC.nw hp5).alloc _).fr hf6 hneg; have hG6b := ((hG9.nw hp5).alloc _).fr hf6 hn9o; have k6 := hB6.cell 2 rfl; have z6 := hB6.fz 2)
     refine hK.out _ _ ?_ (fun hHeld => ?_)
     · exact ⟨hG6b.cell 0 rfl, hG6b.cell 1 rfl, hG6b.cell 2 rfl, hB6.cell 2 rfl⟩
     clear hK K
     refine' tkA 12 [13] hHeld ?_
     try simp only [sP]
     refine' qBr (by kernel_rfl) rfl (by kernel_rfl) (fun K hK => ?_)
     go_simp
     refine hK.out _ _ ?_
     clear hK K
     have hnA : Nw wr (w5.alloc (.cells #[.int .i64 r.ivl, .int .i64 r.dur, .slice A5 r.offs.length n5] 178)) := (hqC.trans hp5).alloc _
     have hs5W := (hs5.nw ((Nw.refl w5).alloc (.cells #[.int .i64 r.ivl, .int .i64 r.dur, .slice A5 r.offs.length n5] 178))).mono (ok' := fun k => wC.heap.size <= k) (fun k _ e => e.1)
     have hrt := qAo.snoc (T := qDc) (xs := t.reps.take j) (y := r) (v := rv) (ok := fun k => wB.heap.size <= k) hr6 hrl (fun i y r' hy hr' => ((HRG.out i y r' hy hr').nw hnA).mono (fun k _ e => e.1))
      (fun W hWW => ⟨_, rfl, hr0, hr1, hs5W W (fun k hk hlt => hWW k ⟨Nat.le_trans hsC hk, fun e => by have := (hown k e.symm).2; omega⟩ hlt)⟩) hf6 ho6
     have hrl3 : rows.length = j := by rw [hrl]; simp; omega
     rw [hrl3] at hrt
     go_wp2
     go_roundg (t.reps.length - (j + 1))
     case measure => rw [HN2.out]; omega
     exact ⟨j + 1, .slice Av (j + 1) cv, by omega, rfl, by go_num, Blk.setP1 hB6 2 _ _ rfl, by
      rw [HT2.out]
      exact hrt.fr (Fr.self (p := ⟨g7, 2, none⟩) _) (fun k hk e => by have := (qAo.base hrt k hk).1; have e' : k = g7 := e; omega) (fun k hk hok e => by have e' : k = g7 := e; omega),
      Fr.setCell (S := fun k => k = g7) (p := ⟨g7, 2, none⟩) (((hFC.trans (hp5.fr _)).alloc _).trans (hf6.mono (fun k _ e => .inr (hown k e.symm).1))) (.inl rfl) _⟩
   have hjn : j = t.reps.length := by omega
   subst hjn
   rw [List.take_of_length_le (Nat.le_refl _)] at hRj
   obtain ⟨Arv, crv, rfl, _⟩ := qAo.form hRj
   have hFTr : Fr (fun k => k = g7) wT wr := (hqB.fr _).trans (hFj.mono (fun k _ e => .inl e))
   have hTr := qAo.fr hTk hFTr (fun k hk e => by have := (qAo.base hTk k hk).2; omega) (fun k hk _ e => by omega)
   have hg4T := hBk.lt
   have hBr := hBk.fr hFTr (fun e => by omega)
   obtain ⟨rowsT, hrowT, hrlT, hrgT⟩ := hTr
   have hownT : ∀ k, tv.ownBlock = some k -> wc.heap.size <= k /\ k < wT.heap.size := fun k hk => ⟨(hrowT.base k hk).1, (qAo.base hTk k hk).2⟩
   have hneg4 : ¬ some g4 = tv.ownBlock := fun e => by have := (hownT g4 e.symm).1; omega
   have hneg7 : ¬ some g7 = tv.ownBlock := fun e => by have := (hownT g7 e.symm).2; omega
   have hrlT2 : rowsT.length <= 2147483647 := by rw [hrlT]; simp; omega
   have hsr := hFTr.size
   have HRGT := hid hrgT
   clear hrgT
   go_upto_region 11 with fail
   refine qAv 10 (fun w' => w'.cell? ⟨g4, 14, none⟩ = some tv /\ w'.cell? ⟨g7, 0, none⟩ = some (.int .u64 t.start) /\ w'.cell? ⟨g7, 1, none⟩ = some (.int .u64 t.stop) /\ w'.cell? ⟨g7, 2, none⟩ = some (.slice Arv t.reps.length crv)) (by kernel_rfl) ⟨hBr.cell 14 rfl, hBj.cell 0 rfl, hBj.cell 1 rfl, hBj.cell 2 rfl⟩ (fun hHeld => ?_)
   obtain ⟨wE, hwE⟩ : ∃ z, z = wr.drew := ⟨_, rfl⟩
   have qE : Nw wr wE := by rw [hwE]; exact (Nw.refl wr).drew
   rw [<- hwE] at hHeld ⊢
   clear hwE
   refine' tkA 0 [10] hHeld ?_
   refine' tkA 1 [10] hHeld ?_
   refine' tkA 2 [10] hHeld ?_
   refine' tkA 3 [10] hHeld ?_
   refine' tkA 4 [10] hHeld ?_
   refine' tkA 5 [10] hHeld ?_
   try simp only [sP]
   refine' qB9 6 (by kernel_rfl) rfl (by decide) (fun K hK => ?_)
   go_simp
   refine hK.out _ _ ?_ (fun hHeld => ?_)
   · exact ⟨((hBr.nw qE).alloc _).cell 14 rfl, ((hBj.nw qE).alloc _).cell 0 rfl, ((hBj.nw qE).alloc _).cell 1 rfl, ((hBj.nw qE).alloc _).cell 2 rfl⟩
   clear hK K
   try simp only [sP]
   refine' qB9 7 (by kernel_rfl) rfl (by decide) (fun K hK => ?_)
   ((refine qA3 rfl ?_; (with_reducible refine qAn wc.heap.size (.tmp 100) (.tmp 102) 109 177 3 (.agg #[.int .u64 0, .int .u64 0, .slice none 0 0]) 40 ?_ underlying109 inf177 ?_ ?_ tv rowsT [.int .u64 t.start, .int .u64 t.stop, .slice Arv t.reps.length crv] ?_ wE.heap.size ?_ (timt t.start t.stop Arv t.reps.length crv) ?_ ?_ ?_ ?_ ?_ ?_); (focus rfl); (focus rfl); (focus decide); (focus rfl); (focus rfl); (focus (exact fun j u hu => Blk.cell (Blk.made wE [.int .u64 t.start, .int .u64 t.stop, .slice Arv t.reps.length crv] 177) j hu)); (focus (exact (hrowT.nw qE).alloc _)); (focus (have := qE.size; simp; omega)); (focus omega); (focus omega); intro v8 w8 hr8 hf8 ho8); obtain ⟨Av, cv, rfl, _⟩ := hr8.form; simp only [List.length_append, List.length_cons, List.length_nil, Nat.zero_add] at hr8 ho8; have hB8 := ((hBr.nw qE).alloc _).fr hf8 hneg4; have hG8 := ((hBj.nw qE).alloc _).fr hf8 hneg7; have k8 := hB8.cell 14 rfl; have z8' := hB8.fz 14)
   refine hK.out _ _ ?_ (fun hHeld => ?_)
   · exact ⟨hB8.cell 14 rfl, hG8.cell 0 rfl, hG8.cell 1 rfl, hG8.cell 2 rfl⟩
   clear hK K
   refine' tkA 8 [9, 10] hHeld ?_
   refine' tkA 9 [10] hHeld ?_
   try simp only [sP]
   refine' qBr (by kernel_rfl) rfl (by kernel_rfl) (fun K hK => ?_)
   go_simp
   refine hK.out _ _ ?_
   clear hK K
   have hFt := qAo.foot hRj (by omega)
   have hsE := qE.size
   have hTf : qAq (fun W => qCc.rel W t [.int .u64 t.start, .int .u64 t.stop, .slice Arv t.reps.length crv]) (wE.alloc (.cells #[.int .u64 t.start, .int .u64 t.stop, .slice Arv t.reps.length crv] 177)) (fun k => wc.heap.size <= k /\ ¬ some k = tv.ownBlock) :=
    qAq.mono ((hFt.nw (qE.alloc _)).imp (fun W hh => ⟨_, rfl, ht0, ht1, hh⟩)) (fun k _ e => by
     have h9 : wB.heap.size <= k := by rcases e.1 with h | h <;> exact h
     exact ⟨by omega, fun e2 => by have := (hownT k e2.symm).2; omega⟩)
   have hrt := qAo.snoc (T := qCc) (xs := x.times.take k) (y := t) (v := tv) (ok := fun k => wc.heap.size <= k) hr8 hrlT (fun i y r' hy hr' => ((HRGT.out i y r' hy hr').nw (qE.alloc _)).mono (fun k _ e => e.1)) hTf hf8 ho8
   have hrl3 : rowsT.length = k := by rw [hrlT]; simp; omega
   rw [hrl3] at hrt
   go_wp2
   go_roundg (x.times.length - (k + 1))
   case measure => rw [HN.out]; omega
   exact ⟨k + 1, .slice Av (k + 1) cv, by omega, rfl, by go_num, Blk.setP1 hB8 14 _ _ rfl, by
    rw [HT.out]
    exact hrt.fr (Fr.self (p := ⟨g4, 14, none⟩) _) (fun j hj e => by have := (qAo.base hrt j hj).1; have e' : j = g4 := e; omega) (fun j hj hok e => by have e' : j = g4 := e; omega),
    Fr.setCell (S := fun k => k = g4) (p := ⟨g4, 14, none⟩) ((((hFk.trans (hFTr.mono (fun j _ e => .inr (by omega)))).trans (qE.fr _)).alloc _).trans (hf8.mono (fun j _ e => .inr (hownT j e.symm).1))) (.inl rfl) _⟩
 have hkn : k = x.times.length := by omega
 subst hkn
 rw [List.take_of_length_le (Nat.le_refl _)] at hTk
 have hwc : w.heap.size <= wc.heap.size := hW.size
 have hsT : wc.heap.size <= wr.heap.size := hFk.size
 have hTF : qAq (fun W => qCc.Sl W x.times tv) wr (fun k => wc.heap.size <= k) := (qAo.foot hTk (by omega)).mono (fun k _ e => by rcases e with h | h <;> exact h)
 obtain ⟨Atv, ctv, rfl, _⟩ := qAo.form hTk
 have HTF := hid hTF
 clear hTF hTk
 have d15 := hb0.cell 15 rfl
 obtain ⟨wX, hwX⟩ : ∃ wX, wX = wr := ⟨_, rfl⟩
 have hX0 : Fr (fun k => k = g4) wX wr := by rw [hwX]; exact Fr.refl _ _
 have HX := hid hwX
 have hFX : Fr (fun k => k = g4) wc wX := by rw [hwX]; exact hFk
 have hXs : wc.heap.size <= wX.heap.size := hFX.size
 clear hwX hFk hb0
 go_wp2
 go_loopg [110] x.zones.length (fun n i wr => ∃ (k : Nat) (zv : Value), k <= x.zones.length /\ n = x.zones.length - k /\ i = .int .i64 k /\ Blk wr g4 [.int .i64 x.ver, .string x.org.user, .int .u64 x.org.id, .int .u64 x.org.ver, .string x.org.net, .string x.org.addr, .string x.org.adr, .string x.name, .pointer E1, .pointer E2, .pointer E3, .pointer E4, .pointer E5, .slice E6 x.bws.length e6, .slice Atv x.times.length ctv, zv, .pointer E7, .slice E8 x.atts.length e8, .slice none 0 0] 115 /\ qAo qDt wr wX.heap.size 181 zv (x.zones.take k) (fun _ => False) /\ Fr (fun k => k = g4) wX wr)
 case atStart => exact ⟨0, .slice none 0 0, Nat.zero_le _, rfl, rfl, hBk, qAo.nil _ _ _ _ _, hX0⟩
 obtain ⟨k, zv, hk, hn, rfl, hBk, hZk, hFk⟩ := hrel
 have HN1 := hid hn
 clear hn
 have hFc : Fr (fun k => k = g4) wc wr := hFX.trans (hFk.mono (fun k _ e => .inl e))
 have hb0 : Blk wr gb [.int .i64 x.ver, .string x.org.user, .int .u64 x.org.id, .int .u64 x.org.ver, .string x.org.net, .string x.org.addr, .string x.org.adr, .string x.name, .slice A0 x.info.length n0, .slice A1 x.uri.length n1, .slice A2 x.email.length n2, .slice A3 x.phone.length n3, .slice A4 x.conn.length n4, .slice A5 x.bws.length n5, .slice A6 x.times.length n6, .slice A7 x.zones.length n7, .slice A8 x.key.length n8, .slice A9 x.atts.length n9, .slice A10 x.media.length n10] 33 := (H0.nw hN).fr hFc hbg
 have hOld : ∀ (p : Addr) (u : Value), w.cell? p = some u -> wr.cell? p = some u := fun p u hc => hFc.cell (S := fun k => k = g4) (fun e => by have h1 := World.block_lt_of_cell? _ _ hc; have e' : p.block = g4 := e; omega) (hW.cell hc)
 by_cases hlt : k < x.zones.length
 · obtain ⟨b, o', rfl, ha⟩ := Ty.Sl_at HM.out.zones k hlt
   obtain ⟨cs, ⟨rfl, hz0, hz1⟩, hx⟩ := ha k _ (List.getElem?_eq_getElem hlt)
   have c0 := hOld _ _ (hx 0 _ rfl)
   have c1 := hOld _ _ (hx 1 _ rfl)
   simp only [qDt, Ty.flat, Nat.add_zero] at c0 c1
   have HT := hid (qAt hlt)
   clear hx ha hOld hb0
   obtain ⟨t, hte⟩ : ∃ t, t = x.zones[k] := ⟨_, rfl⟩
   rw [<- hte] at c0 c1 hz0 hz1 HT
   clear hte
   go_upto_region 16 with fail
   obtain ⟨wC, hwC⟩ : ∃ wC, wC = wr.alloc (.cells #[.int .u64 t.time, .int .i64 t.off] 80) := ⟨_, rfl⟩
   obtain ⟨g9, hg9⟩ : ∃ g, g = wr.heap.size := ⟨_, rfl⟩
   have hqC : Nw wr wC := by rw [hwC]; exact (Nw.refl wr).alloc _
   have hG9 : Blk wC g9 [.int .u64 t.time, .int .i64 t.off] 80 := by rw [hwC, hg9]; exact Blk.made wr _ 80
   have hBC := hBk.nw hqC
   have hFC : Fr (fun k => k = g4) wX wC := hFk.trans (hqC.fr _)
   obtain ⟨rows, hrow, hrl, hrg2⟩ := hZk
   have hrowC := hrow.nw hqC
   have hown : ∀ k, zv.ownBlock = some k -> wX.heap.size <= k /\ k < wr.heap.size := fun k hk => hrow.base k hk
   have hneg : ¬ some g4 = zv.ownBlock := fun e => by have := (hown g4 e.symm).1; omega
   have hn9o : ¬ some g9 = zv.ownBlock := fun e => by have := (hown g9 e.symm).2; omega
   have hsC : wX.heap.size <= wC.heap.size := hFC.size
   have hrls : rows.length <= 2147483647 := by rw [hrl]; simp; omega
   rw [<- hwC, <- hg9]
   have HG9 := hid hg9
   have HRG := hid hrg2
   clear hwC hg9 hrow hrg2 c0 c1
   refine qAv 14 (fun w' => w'.cell? ⟨g4, 15, none⟩ = some zv /\ w'.cell? ⟨g9, 0, none⟩ = some (.int .u64 t.time) /\ w'.cell? ⟨g9, 1, none⟩ = some (.int .i64 t.off)) (by kernel_rfl) ⟨hBC.cell 15 rfl, hG9.cell 0 rfl, hG9.cell 1 rfl⟩ (fun hHeld => ?_)
   obtain ⟨wE, hwE⟩ : ∃ z, z = wC.drew := ⟨_, rfl⟩
   have qE : Nw wC wE := by rw [hwE]; exact (Nw.refl wC).drew
   rw [<- hwE] at hHeld ⊢
   clear hwE
   refine' tkA 0 [14] hHeld ?_
   refine' tkA 1 [14] hHeld ?_
   refine' tkA 2 [14] hHeld ?_
   refine' tkA 3 [14] hHeld ?_
   refine' tkA 4 [14] hHeld ?_
   refine' tkA 5 [14] hHeld ?_
   refine' tkA 6 [14] hHeld ?_
   refine' tkA 7 [14] hHeld ?_
   refine' tkA 8 [14] hHeld ?_
   refine' tkA 9 [14] hHeld ?_
   try simp only [sP]
   refine' qB9 10 (by kernel_rfl) rfl (by decide) (fun K hK => ?_)
   go_simp
   refine hK.out _ _ ?_ (fun hHeld => ?_)
   · exact ⟨((hBC.nw qE).alloc _).cell 15 rfl, ((hG9.nw qE).alloc _).cell 0 rfl, ((hG9.nw qE).alloc _).cell 1 rfl⟩
   clear hK K
   try simp only [sP]
   refine' qB9 11 (by kernel_rfl) rfl (by decide) (fun K hK => ?_)
   ((refine qA3 rfl ?_; (with_reducible refine qAn wX.heap.size (.tmp 118) (.tmp 124) 110 181 2 (.agg #[.int .u64 0, .int .i64 0]) 16 ?_ underlying110 inf181 ?_ ?_ zv rows [.int .u64 t.time, .int .i64 t.off] ?_ wE.heap.size ?_ (zont t.time t.off) ?_ ?_ ?_ ?_ ?_ ?_); (focus rfl); (focus rfl); (focus decide); (focus rfl); (focus rfl); (focus (exact fun j u hu => Blk.cell (Blk.made wE [.int .u64 t.time, .int .i64 t.off] 181) j hu)); (focus (exact (hrowC.nw qE).alloc _)); (focus (have := qE.size; simp; omega)); (focus omega); (focus omega); intro v6 w6 hr6 hf6 ho6); obtain ⟨Av, cv, rfl, _⟩ := hr6.form; simp only [List.length_append, List.length_cons, List.length_nil, Nat.zero_add] at hr6 ho6; have hB6 := ((hBC.nw qE).alloc _).fr hf6 hneg; have hG6 := ((hG9.nw qE).alloc _).fr hf6 hn9o; have k6 := hB6.cell 15 rfl; have z6 := hB6.fz 15)
   refine hK.out _ _ ?_ (fun hHeld => ?_)
   · exact ⟨hB6.cell 15 rfl, hG6.cell 0 rfl, hG6.cell 1 rfl⟩
   clear hK K
   refine' tkA 12 [13, 14] hHeld ?_
   refine' tkA 13 [14] hHeld ?_
   try simp only [sP]
   refine' qBr (by kernel_rfl) rfl (by kernel_rfl) (fun K hK => ?_)
   go_simp
   refine hK.out _ _ ?_
   clear hK K
   have hrt := qAo.snoc (T := qDt) (xs := x.zones.take k) (y := t) (v := zv) (ok := fun _ => False) hr6 hrl (fun i y r' hy hr' W _ => (HRG.out i y r' hy hr').now) (fun W _ => ⟨rfl, hz0, hz1⟩) hf6 ho6
   have hrl3 : rows.length = k := by rw [hrl]; simp; omega
   rw [hrl3] at hrt
   go_wp2
   go_roundg (x.zones.length - (k + 1))
   case measure => rw [HN1.out]; omega
   exact ⟨k + 1, .slice Av (k + 1) cv, by omega, rfl, by go_num, Blk.setP1 hB6 15 _ _ rfl, by
    rw [HT.out]
    exact hrt.fr (Fr.self (p := ⟨g4, 15, none⟩) _) (fun j hj e => by have := (qAo.base hrt j hj).1; have e' : j = g4 := e; omega) (fun j hj hok e => hok.elim),
    Fr.setCell (S := fun k => k = g4) (p := ⟨g4, 15, none⟩) (((hFC.trans (qE.fr _)).alloc _).trans (hf6.mono (fun k _ e => .inr (hown k e.symm).1))) (.inl rfl) _⟩
 have hkn : k = x.zones.length := by omega
 subst hkn
 rw [List.take_of_length_le (Nat.le_refl _)] at hZk
 have hZF : qAq (fun W => qDt.Sl W x.zones zv) wr (fun k => wc.heap.size <= k) := (qAo.foot hZk (by omega)).mono (fun k _ e => by rcases e with h | h; exact h.elim; omega)
 obtain ⟨Azv, czv, rfl, _⟩ := qAo.form hZk
 have hTX := HTF.out
 rw [<- HX.out] at hTX
 have hTZ : qAq (fun W => qCc.Sl W x.times (.slice Atv x.times.length ctv) /\ qDt.Sl W x.zones (.slice Azv x.zones.length czv)) wr (fun k => wc.heap.size <= k) := fun W hWW => ⟨((hTX.fr hFk (fun k hk hok e => by omega)).mono (fun k _ e => e.1)) W hWW, hZF W hWW⟩
 have d18 := hb0.cell 18 rfl
 obtain ⟨wY, hwY⟩ : ∃ wY, wY = wr := ⟨_, rfl⟩
 have hY0 : Fr (fun k => k = g4) wY wr := by rw [hwY]; exact Fr.refl _ _
 have HY := hid hwY
 have hFY : Fr (fun k => k = g4) wc wY := by rw [hwY]; exact hFc
 have hYs : wc.heap.size <= wY.heap.size := hFY.size
 have HTZ := hid hTZ
 clear hwY hFk hZk hZF hTX hTZ hb0 hOld hFc
 go_wp2
 go_loopg [132] x.media.length (fun n i wr => ∃ (k : Nat) (mv : Value), k <= x.media.length /\ n = x.media.length - k /\ i = .int .i64 k /\ Blk wr g4 [.int .i64 x.ver, .string x.org.user, .int .u64 x.org.id, .int .u64 x.org.ver, .string x.org.net, .string x.org.addr, .string x.org.adr, .string x.name, .pointer E1, .pointer E2, .pointer E3, .pointer E4, .pointer E5, .slice E6 x.bws.length e6, .slice Atv x.times.length ctv, .slice Azv x.zones.length czv, .pointer E7, .slice E8 x.atts.length e8, mv] 115 /\ qAo qEs.ptr wr wY.heap.size 182 mv (x.media.take k) (fun k => wY.heap.size <= k) /\ Fr (fun k => k = g4) wY wr)
 case atStart => exact ⟨0, .slice none 0 0, Nat.zero_le _, rfl, rfl, hBk, qAo.nil _ _ _ _ _, hY0⟩
 obtain ⟨k, mv, hk, hn, rfl, hBk, hMk, hFk⟩ := hrel
 have HN1 := hid hn
 clear hn
 have hFc : Fr (fun k => k = g4) wc wr := hFY.trans (hFk.mono (fun k _ e => .inl e))
 have hWr : Nw w wr := hW.frIn hFc (fun k e => by rw [e]; omega)
 by_cases hlt : k < x.media.length
 · obtain ⟨b, o', rfl, ha⟩ := Ty.Sl_at HM.out.media k hlt
   obtain ⟨cs, ⟨u0, u1, u2, u3, u4, u5, u6, u7, rfl, mt⟩, hx⟩ := ha k _ (List.getElem?_eq_getElem hlt)
   have hx' : ∀ j u, _ -> _ := fun j u hu => hWr.cell (hx j u hu)
   have hmt := HLM.out _ (List.getElem_mem hlt)
   have HT := hid (qAt hlt)
   obtain ⟨t, hte⟩ : ∃ t, t = x.media[k] := ⟨_, rfl⟩
   rw [<- hte] at mt hmt HT
   obtain ⟨C0, k0, rfl⟩ := Ty.Sl_form mt.ports; obtain ⟨C1, k1, rfl⟩ := Ty.Sl_form mt.protos; obtain ⟨C2, k2, rfl⟩ := Ty.Sl_form mt.fmts; obtain ⟨C3, k3, rfl⟩ := Ty.Sl_form mt.title; obtain ⟨C4, k4, rfl⟩ := Ty.Sl_form mt.conn; obtain ⟨C5, k5, rfl⟩ := Ty.Sl_form mt.bws; obtain ⟨C6, k6, rfl⟩ := Ty.Sl_form mt.key; obtain ⟨C7, k7, rfl⟩ := Ty.Sl_form mt.atts
   have c0 := hx' 0 _ rfl; have c1 := hx' 1 _ rfl; have c2 := hx' 2 _ rfl; have c3 := hx' 3 _ rfl; have c4 := hx' 4 _ rfl; have c5 := hx' 5 _ rfl; have c6 := hx' 6 _ rfl; have c7 := hx' 7 _ rfl; have c8 := hx' 8 _ rfl; have c9 := hx' 9 _ rfl
   rw [<- hte] at c0 c1
   simp only [qEj, Nat.add_zero] at c0 c1 c2 c3 c4 c5 c6 c7 c8 c9
   clear hx hx' ha hte
   obtain ⟨rows, hrow, hrl, hrg2⟩ := hMk
   have hown : ∀ k, mv.ownBlock = some k -> wY.heap.size <= k /\ k < wr.heap.size := fun k hk => hrow.base k hk
   have hneg : ¬ some g4 = mv.ownBlock := fun e => by have := (hown g4 e.symm).1; omega
   have hsr : wY.heap.size <= wr.heap.size := hFk.size
   have hrls : rows.length <= 2147483647 := by rw [hrl]; simp; omega
   have HRG := hid hrg2
   have MT := hid mt
   have HMT := hid hmt
   clear hrg2 mt hmt
   go_upto_region 21 with fail
   obtain ⟨g9, wC, hG9, hqC, hge9, e1', e2'⟩ := qEm wr [.string t.name, .int .i64 t.port, .slice C0 t.ports.length k0, .slice C1 t.protos.length k1, .slice C2 t.fmts.length k2, .slice C3 t.title.length k3, .slice C4 t.conn.length k4, .slice C5 t.bws.length k5, .slice C6 t.key.length k6, .slice C7 t.atts.length k7] 84
   rw [<- e1', <- e2']
   have HE9 := hid e1'
   clear e1' e2' c0 c1 c2 c3 c4 c5 c6 c7 c8 c9
   have hBC := hBk.nw hqC
   have hWC := hWr.trans hqC
   have hn9o : ¬ some g9 = mv.ownBlock := fun e => by have := (hown g9 e.symm).2; omega
   have hsC := hqC.size
   refine qAv 11 (fun w' => w'.cell? ⟨g4, 18, none⟩ = some mv /\ w'.cell? ⟨g9, 0, none⟩ = some (.string t.name) /\ w'.cell? ⟨g9, 1, none⟩ = some (.int .i64 t.port) /\ w'.cell? ⟨g9, 2, none⟩ = some (.slice C0 t.ports.length k0) /\ w'.cell? ⟨g9, 3, none⟩ = some (.slice C1 t.protos.length k1) /\ w'.cell? ⟨g9, 4, none⟩ = some (.slice C2 t.fmts.length k2) /\ w'.cell? ⟨g9, 5, none⟩ = some (.slice C3 t.title.length k3) /\ w'.cell? ⟨g9, 6, none⟩ = some (.slice C4 t.conn.length k4) /\ w'.cell? ⟨g9, 7, none⟩ = some (.slice C5 t.bws.length k5) /\ w'.cell? ⟨g9, 8, none⟩ = some (.slice C6 t.key.length k6) /\ w'.cell? ⟨g9, 9, none⟩ = some (.slice C7 t.atts.length k7)) (by kernel_rfl) ⟨hBC.cell 18 rfl, hG9.cell 0 rfl, hG9.cell 1 rfl, hG9.cell 2 rfl, hG9.cell 3 rfl, hG9.cell 4 rfl, hG9.cell 5 rfl, hG9.cell 6 rfl, hG9.cell 7 rfl, hG9.cell 8 rfl, hG9.cell 9 rfl⟩ (fun hHeld => ?_)
   obtain ⟨wE, hwE⟩ : ∃ z, z = wC.drew := ⟨_, rfl⟩
   have qE : Nw wC wE := by rw [hwE]; exact (Nw.refl wC).drew
   rw [<- hwE] at hHeld ⊢
   clear hwE
   refine' tkA 0 [11] hHeld ?_
   refine' tkA 1 [11] hHeld ?_
   refine' tkA 2 [11] hHeld ?_
   refine' tkA 3 [11] hHeld ?_
   refine' tkA 4 [11] hHeld ?_
   refine' tkA 5 [11] hHeld ?_
   try simp only [sP]
   refine' qB9 6 (by kernel_rfl) rfl (by decide) (fun K hK => ?_)
   (go_simp; go_at_call 85; (with_reducible refine (to_med t _ _ _ _ _ _ _ _ _ (MedAt.loc (Nw.block (w := w) (hWC.trans qE)) MT.out) HMT.out).mono ?_); rintro e w5 ⟨gd, rfl, hs5, hn5⟩)
   have hp5 : Nw wC w5 := qE.trans hn5
   have hsz5 := hp5.size
   have hszE := qE.size
   refine hK.out _ _ ?_ (fun hHeld => ?_)
   · exact ⟨(hBC.nw hp5).cell 18 rfl, (hG9.nw hp5).cell 0 rfl, (hG9.nw hp5).cell 1 rfl, (hG9.nw hp5).cell 2 rfl, (hG9.nw hp5).cell 3 rfl, (hG9.nw hp5).cell 4 rfl, (hG9.nw hp5).cell 5 rfl, (hG9.nw hp5).cell 6 rfl, (hG9.nw hp5).cell 7 rfl, (hG9.nw hp5).cell 8 rfl, (hG9.nw hp5).cell 9 rfl⟩
   clear hK K
   try simp only [sP]
   refine' qB9 7 (by kernel_rfl) rfl (by decide) (fun K hK => ?_)
   go_simp
   refine hK.out _ _ ?_ (fun hHeld => ?_)
   · exact ⟨((hBC.nw hp5).alloc _).cell 18 rfl, ((hG9.nw hp5).alloc _).cell 0 rfl, ((hG9.nw hp5).alloc _).cell 1 rfl, ((hG9.nw hp5).alloc _).cell 2 rfl, ((hG9.nw hp5).alloc _).cell 3 rfl, ((hG9.nw hp5).alloc _).cell 4 rfl, ((hG9.nw hp5).alloc _).cell 5 rfl, ((hG9.nw hp5).alloc _).cell 6 rfl, ((hG9.nw hp5).alloc _).cell 7 rfl, ((hG9.nw hp5).alloc _).cell 8 rfl, ((hG9.nw hp5).alloc _).cell 9 rfl⟩
   clear hK K
   try simp only [sP]
   refine' qB9 8 (by kernel_rfl) rfl (by decide) (fun K hK => ?_)
   ((refine qA3 rfl ?_; (with_reducible refine qAn wY.heap.size (.tmp 140) (.tmp 143) 113 182 1 (.pointer none) 8 ?_ underlying113 inf182 ?_ ?_ mv rows [.pointer (some ⟨gd, 0, none⟩)] ?_ w5.heap.size ?_ (medt gd) ?_ ?_ ?_ ?_ ?_ ?_); (focus rfl); (focus rfl); (focus decide); (focus rfl); (focus rfl); (focus (exact fun j u hu => Blk.cell (Blk.made w5 [.pointer (some ⟨gd, 0, none⟩)] 182) j hu)); (focus (exact ((hrow.nw hqC).nw hp5).alloc _)); (focus (simp; omega)); (focus omega); (focus omega); intro v6 w6 hr6 hf6 ho6); obtain ⟨Av, cv, rfl, _⟩ := hr6.form; simp only [List.length_append, List.length_cons, List.length_nil, Nat.zero_add] at hr6 ho6; have hB6 := ((hBC.nw hp5).alloc _).fr hf6 hneg; have hG6 := ((hG9.nw hp5).alloc _).fr hf6 hn9o; have k6 := hB6.cell 18 rfl; have z6 := hB6.fz 18)
   refine hK.out _ _ ?_ (fun hHeld => ?_)
   · exact ⟨hB6.cell 18 rfl, hG6.cell 0 rfl, hG6.cell 1 rfl, hG6.cell 2 rfl, hG6.cell 3 rfl, hG6.cell 4 rfl, hG6.cell 5 rfl, hG6.cell 6 rfl, hG6.cell 7 rfl, hG6.cell 8 rfl, hG6.cell 9 rfl⟩
   clear hK K
   refine' tkA 9 [10, 11] hHeld ?_
   refine' tkA 10 [11] hHeld ?_
   try simp only [sP]
   refine' qBr (by kernel_rfl) rfl (by kernel_rfl) (fun K hK => ?_)
   go_simp
   refine hK.out _ _ ?_
   clear hK K
   have hFm : qAq (fun W => qEs.ptr.rel W t [.pointer (some ⟨gd, 0, none⟩)]) (w5.alloc (.cells #[.pointer (some ⟨gd, 0, none⟩)] 182)) (fun k => wY.heap.size <= k /\ ¬ some k = mv.ownBlock) :=
    qAq.mono ((hs5.nw ((Nw.refl w5).alloc (.cells #[.pointer (some ⟨gd, 0, none⟩)] 182))).imp (fun W hh => ⟨_, rfl, hh⟩)) (fun k _ e => by
     have e1 : wE.heap.size <= k := e.1
     exact ⟨by omega, fun e2 => by have := (hown k e2.symm).2; omega⟩)
   have hrt := qAo.snoc (T := qEs.ptr) (xs := x.media.take k) (y := t) (v := mv) (ok := fun k => wY.heap.size <= k) hr6 hrl (fun i y r' hy hr' => ((HRG.out i y r' hy hr').nw ((hqC.trans hp5).alloc _)).mono (fun k _ e => e.1)) hFm hf6 ho6
   have hrl3 : rows.length = k := by rw [hrl]; simp; omega
   rw [hrl3] at hrt
   go_wp2
   go_roundg (x.media.length - (k + 1))
   case measure => rw [HN1.out]; omega
   exact ⟨k + 1, .slice Av (k + 1) cv, by omega, rfl, by go_num, Blk.setP1 hB6 18 _ _ rfl, by
    rw [HT.out]
    exact hrt.fr (Fr.self (p := ⟨g4, 18, none⟩) _) (fun j hj e => by have := (qAo.base hrt j hj).1; have e' : j = g4 := e; omega) (fun j hj hok e => by have e' : j = g4 := e; omega),
    Fr.setCell (S := fun k => k = g4) (p := ⟨g4, 18, none⟩) (((hFk.trans ((hqC.trans hp5).fr _)).alloc _).trans (hf6.mono (fun k _ e => .inr (hown k e.symm).1))) (.inl rfl) _⟩
 have hkn : k = x.media.length := by omega
 subst hkn
 rw [List.take_of_length_le (Nat.le_refl _)] at hMk
 have hMF : qAq (fun W => qEs.ptr.Sl W x.media mv) wr (fun k => wc.heap.size <= k) := (qAo.foot hMk (by omega)).mono (fun k _ e => by rcases e with h | h <;> omega)
 obtain ⟨Amv, cmv, rfl, _⟩ := qAo.form hMk
 have hTZ9 := HTZ.out
 rw [<- HY.out] at hTZ9
 have hTZr := (hTZ9.fr hFk (fun k hk hok e => by omega)).now
 have hmv : ∀ {Q : World -> Prop}, qAq Q wc (fun k => w0.heap.size <= k /\ ¬ k = g4) -> Q wr := fun h => (h.fr hFc (fun k hk hok e => hok.2 e)).now
 have R9 : Hid (qN5 wr g4 x) := hid ⟨_, _, _, _, _, _, _, _, _, _, _, hBk, HM.out.user, HM.out.oid, HM.out.over, HM.out.onet, HM.out.oaddr, HM.out.oadr, HM.out.name, hmv HF1.out, hmv HF2.out, hmv HF3.out, hmv HF4.out, hmv HF5.out, hmv HF6.out, hTZr.1, hTZr.2, hmv HF7.out, hmv HF8.out, hMF.now⟩
 have hge : w.heap.size <= g4 := by omega
 clear hmv hTZr hMF
 go_wp2
 go_ret
 exact ⟨_, rfl, hge, R9.out, hWr⟩
end Go.Proofs.YtcepdjlknalmnaaGreatDoor

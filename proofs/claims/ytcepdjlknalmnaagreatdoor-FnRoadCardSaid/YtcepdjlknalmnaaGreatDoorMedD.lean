/- Laws of this claim. -/
import Derived.Test.YtcepdjlknalmnaaGreatDoorMedP
set_option linter.unusedSimpArgs false
set_option linter.unusedVariables false
namespace Go.Proofs.YtcepdjlknalmnaaGreatDoor
open Tryz
open Lib (hid decDigits)
open Go.RowKit
attribute [local go_sem ↓] Go.wp_at_zero Go.wp_at_succ
set_option maxRecDepth 100000 in
set_option maxHeartbeats 4000000 in
theorem step_lm (B : Nat) (w : World) (ρ : Nat -> Nat) (L D C : Nat) (s : ByteArray) (p m1 p1 m2 p2 m3 p3 m r : Nat) (q : Pst) (V : Vs) (a : Addr) (N : Nat) (md : Med) (h : PS B w ρ L D C s p q V) (hs : qAb s) (hE : Eof w a) (hB : 0 < B) (hm0 : q.mc = none -> q.ma = []) (hN : Small N q) (hN2 : N <= 1000000000)
 (hok : qIw md = true) (hbn : qDs md.name) (hbf : ∀ x ∈ md.fmts, qDs x) (h1 : p <= m1) (hp1 : qB7 s p m1) (hx1 : s.extract p m1 = md.name) (hs1 : qCl s m1 p1) (h2 : p1 <= m2) (hp2 : qB7 s p1 m2) (hx2 : s.extract p1 m2 = mk (qCo md)) (hs2 : qCl s m2 p2)
 (h3 : p2 <= m3) (hp3 : qB7 s p2 m3) (hx3 : s.extract p2 m3 = mk (qAk [47] md.protos)) (hs3 : qCl s m3 p3) (hf : FmtsAt s m p3 md.fmts) (hle : qA5 s m r) (hn : NextAt s r) :
 Calls prog 246 #[.pointer (some ⟨L, 0, none⟩)] w (qAr V.pro B w L D C s r (q.app (.lm md)) 258) := by
 have hsz := hle.size
 have hl0 := h.lne
 have hnLD := h.neLD
 have hnLC := h.neLC
 obtain ⟨q1, hq1⟩ : ∃ q1, q1 = q.pop := ⟨_, rfl⟩
 rw [app_lm q md hm0, <- hq1]
 have hma : q.ma.length <= 1000000000 := by have := hN.ma; omega
 have hmd : q.md.length <= 1000000000 := by have := hN.md; omega
 have hmb : ∀ y, q.mc = some y -> y.bws.length <= 1000000000 := fun y hy => by have := hN.mbws y hy; omega
 have l0 := h.lx.cell 0 rfl
 have l1 := h.lx.cell 1 rfl
 unfold pD at l0 l1
 have k := hok
 unfold qIw qCf at k
 simp only [Bool.and_eq_true, List.all_eq_true, decide_eq_true_eq] at k
 obtain ⟨⟨c1, c2, c3, c4, c5, c6, c7, c8⟩, c9, c10, c11, _⟩ := k
 have C1 := hid c1
 have C10 := hid c10
 have hsw := hs
 have hwp : ∀ x ∈ md.protos, qAb x := fun x hx => by
  obtain ⟨y, hy, e⟩ := qF0 (c10 x hx)
  have h1 := qCi (l := qBw) (by decide) y hy
  have : x.size = y.size := by rw [<- qA4, <- qA4]; exact congrArg List.length e.symm
  unfold qAb at h1 ⊢
  omega
 have hwf : ∀ x ∈ md.fmts, qAb x := fun x hx => by have := hbf x hx; unfold qDs at this; show x.size <= 1152921504606846976; omega
 have hwn : qAb md.name := by unfold qDs at hbn; show md.name.size <= 1152921504606846976; omega
 have hwi : qAg .i64 md.port := ⟨by show -9223372036854775808 <= md.port; omega, by show md.port <= 9223372036854775807; omega⟩
 have HW := hid (And.intro hwp (And.intro hwf (And.intro hwn hwi)))
 clear hwp hwf hwn hwi hok
 have hprot := qL1 c5 c10
 have hps : (mk (qAk [47] md.protos)).size <= 1000 := by
  rw [qAy]
  have := qQj (n := 5) (xs := md.protos) (fun x hx => in_size (c10 x hx) (by decide))
  omega
 have hqs : (mk (qCo md)).size <= 1000 := by rw [qAy]; exact port_le c2 c3 c4
 have hX1 := hid hx1
 obtain ⟨z2, hz2⟩ : ∃ z, z = mk (qCo md) := ⟨_, rfl⟩
 obtain ⟨z3, hz3⟩ : ∃ z, z = mk (qAk [47] md.protos) := ⟨_, rfl⟩
 obtain ⟨d0, hd0⟩ : ∃ d, d = mk (decDigits md.port.toNat) := ⟨_, rfl⟩
 have hp0 : ((md.port.toNat : Nat) : Int) = md.port := by omega
 have hP : ∀ w, Calls prog 256 #[.string d0] w fun e w' => e = .returned (.tuple #[.int .i64 md.port, .nilIface]) /\ Nw w w' := fun w => by
  have := par_port md.port.toNat w (by omega)
  rw [hp0, <- hd0] at this
  exact this
 have hS3 : ∀ w, Calls prog 136 #[.string z3, .string ⟨#[47]⟩] w fun e w' => ∃ v', e = .returned v' /\ qB2 w' w.heap.size v' (md.protos.map bs) /\ Nw w w' := fun w => by
  have := qGm z3 47 w (by rw [hz3]; show _ <= 1152921504606846976; omega) (by rw [hz3]; omega)
  rw [hz3, show bs (mk (qAk [47] md.protos)) = qAk [47] md.protos from rfl, hprot, <- hz3] at this
  exact this
 have hS2 : ∀ w, Calls prog 136 #[.string z2, .string ⟨#[47]⟩] w fun e w' => ∃ v', e = .returned v' /\ qB2 w' w.heap.size v' (qC8 47 (qCo md)) /\ Nw w w' := fun w => by
  have := qGm z2 47 w (by rw [hz2]; show _ <= 1152921504606846976; omega) (by rw [hz2]; omega)
  rw [show bs z2 = qCo md by rw [hz2]; rfl] at this
  exact this
 have h1' : ∀ n : Int, md.ports = [n] -> 0 <= n /\ n <= 10000 := fun n hn => by
  have := c9 n (by rw [hn]; exact List.mem_singleton.2 rfl)
  unfold qJu at this
  simp at this
  omega
 have hsp0 := fun e => qL2 (m := md) c2 c3 e
 have hsp1 := fun n e => qL3 (m := md) (n := n) c2 c3 e (h1' n e).1 (h1' n e).2
 rw [<- hz2] at hx2
 rw [<- hz3] at hx3
 have HX2 := hid hx2
 have HX3 := hid hx3
 have HP := hid hP
 have HS2 := hid hS2
 have HS3 := hid hS3
 have HD0 := hid hd0
 have hspl : qC8 47 (qCo md) = decDigits md.port.toNat :: md.ports.map (fun n => decDigits n.toNat) := by
  rcases hpp : md.ports with _ | ⟨n, _ | ⟨n2, l⟩⟩
  · rw [hsp0 hpp]; rfl
  · rw [hsp1 n hpp]; rfl
  rw [hpp] at c4; simp at c4
 have HSPL := hid hspl
 have H1' := hid h1'
 clear hx1 hx2 hx3 hP hS2 hS3 hd0 hp0 hsp0 hsp1 hspl h1' hz2 hz3 hps hqs hprot c1 c2 c3 c9 c10 c11
 have hpc := fun w0 (n0 : Nw w w0) => qHu B w0 (ext ρ w.heap.size (fun _ => 0)) L D C s p q V (qCg q V) (h.nw n0).toC rfl hm0 hma hmd hmb
 rw [<- hq1] at hpc
 have HPC := hid hpc
 clear hpc hm0 hma hmb
 go_enter func246, ntmps246
 go_upto_region 1 with fail
 go_region_held3 (fun w' => w'.cell? ⟨L, 0, none⟩ = some (.pointer (some ⟨D, 0, none⟩)) /\ w'.cell? ⟨L, 1, none⟩ = some (.pointer (some ⟨C, 0, none⟩))) (first | exact ⟨m0, m0'⟩ | go_keep) (first | (go_at_call 66; (with_reducible refine (HPC.out _ ?_).mono ?_); (focus exact (Nw.refl w).drew); rintro e W1 ⟨rfl, ⟨ρ1, v2, hPop⟩, hF1⟩; have m0 := hPop.lx.cell 0 rfl; have m0' := hPop.lx.cell 1 rfl; unfold pD at m0 m0'))
 have hB1 : Fr (fun k => B <= k) w W1 := Fr.undrew (hF1.mono (fun k _ e => (h.nw (Nw.refl w).drew).kp.zero k (fun e0 => by rw [e0] at e; omega)))
 have hE1 : Eof W1 a := hE.fr hB1 (fun e => by omega)
 obtain ⟨V1, hV1⟩ : ∃ V1, V1 = { V with ma := v2 } := ⟨_, rfl⟩
 have hdc : qCg q V = qCg q1 V1 := by rw [hq1, hV1]; rfl
 have hm1 : q1.md.length <= 1000000001 := by
  rw [hq1]
  cases hc : q.mc <;> simp [Pst.pop, hc] <;> omega
 have hVp : V1.pro = V.pro := by rw [hV1]
 rw [hdc, <- hV1] at hPop
 clear hq1 hV1 hdc m0 m0' l0 l1 HPC hF1
 have hLW := hPop.lx.lt
 obtain ⟨g, hg⟩ : ∃ g, g = W1.heap.size := ⟨_, rfl⟩
 have hgw : W1.heap.size <= g := Nat.le_of_eq hg.symm
 have hgL : ¬ g = L := fun e => by omega
 obtain ⟨w0, hw0⟩ : ∃ w0, w0 = W1.alloc (.cells #[.string ⟨#[]⟩, .int .i64 0, .pointer none, .slice none 0 0, .slice none 0 0, .pointer none, .pointer none, .slice none 0 0, .pointer none, .slice none 0 0] 206) := ⟨_, rfl⟩
 have hX0 : Lx w0 L (pD D) (pD C) s p := by rw [hw0]; exact Blk.alloc hPop.lx _
 have hF0 : Fr (fun k => k = L) W1 w0 := by rw [hw0]; (apply_rules [Fr.refl, Fr.drew, Fr.drewN, Fr.alloc, Fr.put])
 have hB0 : Blk w0 g [.string ⟨#[]⟩, .int .i64 0, .pointer none, .slice none 0 0, .slice none 0 0, .pointer none, .pointer none, .slice none 0 0, .pointer none, .slice none 0 0] 206 := by rw [hw0, hg]; exact Blk.made W1 _ 206
 have hE0 : Eof w0 a := hE1.fr hF0 (fun e => hl0 e.symm)
 go_upto_region 3 with fail
 rw [<- hw0, <- hg]
 have HG := hid hg
 clear hw0 hg
 go_upto_region 6 with (go_at_call 173; (with_reducible refine (qAu L (pD D) (pD C) s p m1 p1 a _ hX0 hs hE0 hl0 h1 hp1 hs1).mono ?_); rw [hX1.out]; rintro e v0 ⟨rfl, hXa, hFa⟩; have hBa := hB0.fr hFa hgL)
 go_upto_region 8 with (go_at_call 174; (with_reducible refine (qJ3 md.name _ _ ?_ C1.out).mono ?_); (focus exact Blk.made' rfl _ 9); rintro e wx ⟨rfl, rfl⟩)
 obtain ⟨wA, hwA⟩ : ∃ wA, wA = v0.alloc (.cells #[.string ⟨#[97, 117, 100, 105, 111]⟩, .string ⟨#[118, 105, 100, 101, 111]⟩, .string ⟨#[116, 101, 120, 116]⟩, .string ⟨#[97, 112, 112, 108, 105, 99, 97, 116, 105, 111, 110]⟩, .string ⟨#[109, 101, 115, 115, 97, 103, 101]⟩] 9) := ⟨_, rfl⟩
 have hqA : Nw v0 wA := by rw [hwA]; exact (Nw.refl _).alloc _
 have hXA : Lx wA L (pD D) (pD C) s p1 := Blk.nw hXa hqA
 have hBA := hBa.nw hqA
 have hFA : Fr (fun k => k = L) W1 wA := (hF0.trans (hFa.mono (fun k _ e => .inl e))).trans (hqA.fr _)
 rw [<- hwA]
 clear hwA hXa hFa hBa hqA hX0 hF0 hB0 hE0
 have hEA : Eof wA a := hE1.fr hFA (fun e => hl0 e.symm)
 have cA := hBA.cell 0 rfl
 have fA := hBA.fz 0
 go_upto_region 9 with fail
 obtain ⟨wB, hwB⟩ : ∃ wB, wB = wA.setCell ⟨g, 0, none⟩ (.string md.name) := ⟨_, rfl⟩
 have hXB : Lx wB L (pD D) (pD C) s p1 := by rw [hwB]; exact Blk.other hXA (fun e => hgL e.symm) _
 have hBB : Blk wB g [.string md.name, .int .i64 0, .pointer none, .slice none 0 0, .slice none 0 0, .pointer none, .pointer none, .slice none 0 0, .pointer none, .slice none 0 0] 206 := by rw [hwB]; exact hBA.set 0 _
 have hFB : Fr (fun k => k = L) W1 wB := by rw [hwB]; exact hFA.setCell (.inr hgw) _
 have hEB : Eof wB a := hE1.fr hFB (fun e => hl0 e.symm)
 rw [<- hwB]
 clear hwB hXA hFA hBA hEA cA fA
 go_upto_region 12 with (go_at_call 173; (with_reducible refine (qAu L (pD D) (pD C) s p1 m2 p2 a _ hXB hs hEB hl0 h2 hp2 hs2).mono ?_); rw [HX2.out]; rintro e v0 ⟨rfl, hXa, hFa⟩; have hBa := hBB.fr hFa hgL; have hgv := hBa.lt; have hFb := hFB.trans (hFa.mono (fun k _ e => .inl e)))
 clear hXB hFB hBB hEB hFa
 go_upto_region 13 with (go_at_call 136; (with_reducible refine (HS2.out _).mono ?_); rintro e wx ⟨vs, rfl, hR, hN1⟩)
 have hXc : Lx wx L (pD D) (pD C) s p2 := Blk.nw hXa hN1
 have hBc := hBa.nw hN1
 have hFc : Fr (fun k => k = L) W1 wx := hFb.trans (hN1.fr _)
 clear hXa hBa hFb hN1
 rw [HSPL.out] at hR
 obtain ⟨gs, cs, rfl⟩ := Row.form1 hR (by simp)
 rw [List.length_map, List.length_map] at hR
 have hlen : (decDigits md.port.toNat :: md.ports.map (fun n => decDigits n.toNat)).length = md.ports.length + 1 := by simp
 rw [hlen] at hR
 have cp : wx.cell? ⟨gs, 0, none⟩ = some (.string d0) := by rw [HD0.out]; exact hR.cell (k := 0) (j := 0) rfl rfl rfl
 have cq : ∀ n, md.ports = [n] -> wx.cell? ⟨gs, 1, none⟩ = some (.string (mk (decDigits n.toNat))) := fun n hn => by
  have := hR.cell (g := gs) (k := 1) (j := 0) (r := [.string (mk (decDigits n.toNat))]) rfl (by rw [hn]; rfl) rfl
  simpa using this
 have HCQ := hid cq
 have nS := (hR.base gs rfl).2
 clear cq
 simp only [List.length_map, List.length_cons]
 go_upto_if 66 with (go_at_call 256; (with_reducible refine (HP.out _).mono ?_); rintro e wy ⟨rfl, qy⟩; have hBy := hBc.nw qy; have cy := hBy.cell 1 rfl; have fy := hBy.fz 1)
 obtain ⟨wz, hwz⟩ : ∃ wz, wz = wy.setCell ⟨g, 1, none⟩ (.int .i64 md.port) := ⟨_, rfl⟩
 have hXz : Lx wz L (pD D) (pD C) s p2 := by rw [hwz]; exact Blk.other (Blk.nw hXc qy) (fun e => hgL e.symm) _
 have hBz : Blk wz g [.string md.name, .int .i64 md.port, .pointer none, .slice none 0 0, .slice none 0 0, .pointer none, .pointer none, .slice none 0 0, .pointer none, .slice none 0 0] 206 := by rw [hwz]; exact hBy.set 1 _
 have hFz : Fr (fun k => k = L) W1 wz := by rw [hwz]; exact (hFc.trans (qy.fr _)).setCell (.inr hgw) _
 have hgsb := (hR.base gs rfl).1
 have hgz := hBz.lt
 have hsz4 : wx.heap.size <= wz.heap.size := by rw [hwz]; simpa [World.setCell] using qy.size
 have HCQ2 : Hid (∀ n, md.ports = [n] -> wz.cell? ⟨gs, 1, none⟩ = some (.string (mk (decDigits n.toNat)))) := hid (fun n hn => by
  have h1 := qy.cell (HCQ.out n hn)
  rw [hwz]
  rw [World.cell?_setCell_other]
  · exact h1
  intro e; injection e with e1; omega)
 rw [<- hwz]
 clear hwz hXc hBc hFc hR cp HCQ qy hBy cy fy hlen
 go_cut [7] from 13 (fun _ wc => ∃ vp, Lx wc L (pD D) (pD C) s p2 /\ Blk wc g [.string md.name, .int .i64 md.port, vp, .slice none 0 0, .slice none 0 0, .pointer none, .pointer none, .slice none 0 0, .pointer none, .slice none 0 0] 206 /\ qAq (fun W => tyI.Pt W md.ports vp) wc (fun k => W1.heap.size <= k /\ ¬ k = g) /\ Fr (fun k => k = L) W1 wc)
 case first =>
  rcases hpp : md.ports with _ | ⟨n, _ | ⟨n2, l⟩⟩
  · go_wp2
    go_meet
    case rel => exact ⟨.pointer none, hXz, hBz, fun _ _ => .inl ⟨(by first | exact hpp | rfl), rfl⟩, hFz⟩
  · have hn := H1'.out n hpp
    obtain ⟨dn, hdn⟩ : ∃ d, d = mk (decDigits n.toNat) := ⟨_, rfl⟩
    have c1 := HCQ2.out n hpp
    rw [<- hdn] at c1
    have hA : ∀ w, Calls prog 257 #[.string dn] w fun e w' => e = .returned (.tuple #[.int .i64 n, .nilIface]) /\ Nw w w' := fun w => by
     have := qMq n.toNat w (by omega)
     rw [show ((n.toNat : Nat) : Int) = n by omega, <- hdn] at this
     exact this
    have HA := hid hA
    clear hA hdn
    have c1' := Nw.cell ((Nw.refl wz).alloc (.cells #[.int .i64 0] 3)) c1
    have hwz1 : qAg .i64 n := ⟨by show -9223372036854775808 <= n; omega, by show n <= 9223372036854775807; omega⟩
    have HN2 := hid hwz1
    clear c1 hwz1
    go_wp2_with (go_at_call 257; (with_reducible refine (HA.out _).mono ?_); rintro e w5 ⟨rfl, q5⟩; have hG5 := (Blk.made wz [.int .i64 0] 3).nw q5; have hB5 := (Blk.alloc hBz (.cells #[.int .i64 0] 3)).nw q5; have k0 := hG5.cell 0 rfl; have k1 := hG5.fz 0; have k2 := hB5.cell 2 rfl; have k3 := hB5.fz 2)
    go_meet
    case rel =>
     have hne : ¬ wz.heap.size = g := by omega
     have hLz : ¬ L = wz.heap.size := by have := Blk.lt hXz; omega
     have hfp : qAq (fun W => tyI.Pt W [n] (.pointer (some ⟨wz.heap.size, 0, none⟩))) ((w5.setCell ⟨wz.heap.size, 0, none⟩ (.int .i64 n)).setCell ⟨g, 2, none⟩ (.pointer (some ⟨wz.heap.size, 0, none⟩))) (fun k => W1.heap.size <= k /\ ¬ k = g) :=
      qFs (T := tyI) (x := n) (cs := [.int .i64 n]) (Blk.other (hG5.set 0 (.int .i64 n)) hne _) ⟨by have := hFz.size; omega, hne⟩ (fun _ _ => ⟨rfl, HN2.out⟩)
     refine ⟨.pointer (some ⟨wz.heap.size, 0, none⟩), Blk.other (Blk.other ((Blk.alloc hXz _).nw q5) hLz _) (fun e => hgL e.symm) _, Blk.setM (Blk.other hB5 (fun e => hne e.symm) _) 2 _ rfl, (by first | exact hfp | (rw [hpp]; exact hfp)), ?_⟩
     exact ((((hFz.alloc _).trans (q5.fr _)).setCell (.inr (by have := hFz.size; show W1.heap.size <= wz.heap.size; omega)) _).setCell (.inr hgw) _)
  rw [hpp] at c4; simp at c4
 obtain ⟨vp, hXr, hBr, hPf, hFr⟩ := hcut
 clear hXz hBz hFz HCQ2 HP HD0 HSPL HS2 HX2 hX1 C1
 have hEr : Eof wc a := hE1.fr hFr (fun e => hl0 e.symm)
 go_upto_region 25 with (go_at_call 173; (with_reducible refine (qAu L (pD D) (pD C) s p2 m3 p3 a _ hXr hs hEr hl0 h3 hp3 hs3).mono ?_); rw [HX3.out]; rintro e v0 ⟨rfl, hXa, hFa⟩; have hBa := hBr.fr hFa hgL; have hFb := hFr.trans (hFa.mono (fun k _ e => .inl e)); have hPa := hPf.fr hFa (fun k hk hok e => by rw [e] at hok; omega))
 clear hXr hBr hFr hEr hFa hPf
 go_wp2_with (go_at_call 136; (with_reducible refine (HS3.out _).mono ?_); rintro e wS ⟨vs2, rfl, hR, hN1⟩; obtain ⟨gs2, cs2, rfl⟩ := Row.form1 hR (by simpa using c5))
 simp only [List.length_map] at hR
 have hXS : Lx wS L (pD D) (pD C) s p3 := Blk.nw hXa hN1
 have hBS := hBa.nw hN1
 have hFS : Fr (fun k => k = L) W1 wS := hFb.trans (hN1.fr _)
 have hPS : qAq (fun W => tyI.Pt W md.ports vp) wS (fun k => W1.heap.size <= k /\ ¬ k = g) := (hPa.nw hN1).mono (fun k _ e => e.1.1)
 have hgS : g < wS.heap.size := hBS.lt
 have hgs2 := hR.base gs2 rfl
 have hga : g < v0.heap.size := hBa.lt
 clear hXa hBa hFb hPa hN1 HS3 HX3
 go_loopw [93] (fun i wr => ∃ (k : Nat) (pv : Value), k <= md.protos.length /\ i = .int .i64 k /\ Blk wr g [.string md.name, .int .i64 md.port, vp, pv, .slice none 0 0, .pointer none, .pointer none, .slice none 0 0, .pointer none, .slice none 0 0] 206 /\ Row wr wS.heap.size 9 1 pv ((md.protos.take k).map qI3) /\ Fr (fun k => k = g) wS wr) (fun i _ => md.protos.length - (intOf i).toNat)
 case atStart => exact ⟨0, .slice none 0 0, Nat.zero_le _, rfl, hBS, Row.nil _ _ _ _, Fr.refl _ _⟩
 obtain ⟨k, pv, hk, rfl, hBk, hRk, hFk⟩ := hrel
 obtain ⟨Ap, cpv, rfl, _⟩ := hRk.form
 have hkl : ((md.protos.take k).map qI3).length = k := by simp; omega
 rw [hkl] at hBk hRk
 by_cases hlt : k < md.protos.length
 · have cx : wr.cell? ⟨gs2, k, none⟩ = some (.string md.protos[k]) := hFk.cell (S := fun k => k = g) (p := ⟨gs2, k, none⟩) (fun e => by have e' : gs2 = g := e; omega) (by
    have := hR.cell (g := gs2) (k := k) (j := 0) (r := [.string md.protos[k]]) rfl (by simp [hlt]; rfl) rfl
    simpa using this)
   have hx := C10.out _ (List.getElem_mem hlt)
   have HT : Hid ((md.protos.take k).map qI3 ++ [qI3 md.protos[k]] = (md.protos.take (k + 1)).map qI3) := hid (by rw [List.take_succ_eq_append_getElem hlt, List.map_append]; rfl)
   obtain ⟨x, hxe⟩ : ∃ x, x = md.protos[k] := ⟨_, rfl⟩
   rw [<- hxe] at cx hx HT
   clear hxe
   have HXP := hid hx
   clear hx
   go_upto_region 30 with (go_at_call 174; (with_reducible refine (qIk x _ _ ?_ HXP.out).mono ?_); (focus exact Blk.made' rfl _ 9); rintro e wx ⟨rfl, rfl⟩)
   obtain ⟨wN, hwN⟩ : ∃ wN, wN = wr.alloc (.cells #[.string ⟨#[85, 68, 80]⟩, .string ⟨#[82, 84, 80]⟩, .string ⟨#[65, 86, 80]⟩, .string ⟨#[83, 65, 86, 80]⟩, .string ⟨#[83, 65, 86, 80, 70]⟩, .string ⟨#[84, 76, 83]⟩, .string ⟨#[68, 84, 76, 83]⟩, .string ⟨#[83, 67, 84, 80]⟩, .string ⟨#[65, 86, 80, 70]⟩, .string ⟨#[84, 67, 80]⟩, .string ⟨#[77, 83, 82, 80]⟩, .string ⟨#[66, 70, 67, 80]⟩, .string ⟨#[85, 68, 84]⟩, .string ⟨#[73, 88]⟩, .string ⟨#[77, 82, 67, 80, 118, 50]⟩, .string ⟨#[70, 69, 67]⟩] 9) := ⟨_, rfl⟩
   have qN : Nw wr wN := by rw [hwN]; exact (Nw.refl _).alloc _
   rw [<- hwN]
   clear hwN
   have hBN := hBk.nw qN
   have hRN := hRk.nw qN
   have hFN : Fr (fun k => k = g) wS wN := hFk.trans (qN.fr _)
   have c3 := hBN.cell 3 rfl
   have hgN := hBN.lt
   have hsN := hFN.size
   have hneg : ¬ some g = (Value.slice Ap k cpv).ownBlock := fun e => by have := (hRN.base g e.symm).1; omega
   have hl1 : ((md.protos.take k).map qI3 ++ [qI3 x]).length = k + 1 := by rw [List.length_append, hkl]; rfl
   clear hBk hRk cx
   go_wp2_with ((refine qAc rfl fun K hK => ?_; (with_reducible refine qAn wS.heap.size (.tmp 104) (.tmp 106) 25 9 1 (.string ⟨#[]⟩) 16 ?_ underlying25 inf9 ?_ ?_ (.slice Ap k cpv) ((md.protos.take k).map qI3) (qI3 x) ?_ wN.heap.size ?_ (qMu x) ?_ ?_ ?_ ?_ ?_ ?_); (focus rfl); (focus rfl); (focus decide); (focus rfl); (focus rfl); (focus (exact fun j u hu => Blk.cell (Blk.made wN (qI3 x) 9) j hu)); (focus (exact hRN.alloc _)); (focus (simp; omega)); (focus omega); (focus omega); intro v7 w7 hr7 hf7 ho7; refine hK _ _ ?_); obtain ⟨Av, cv, rfl, _⟩ := hr7.form; rw [hl1] at hr7 ho7; have hB7 := (Blk.alloc hBN _).fr hf7 hneg; have c7 := hB7.cell 3 rfl; have f7 := hB7.fz 3)
   exact ⟨⟨k + 1, .slice Av (k + 1) cv, by omega, by go_num, Blk.setM hB7 3 _ rfl, by
    rw [<- HT.out]
    exact hr7.fr (Fr.self (p := ⟨g, 3, none⟩) _) (fun j hj e => by have := (hr7.base j hj).1; have e' : j = g := e; omega),
    ((hFN.alloc _).trans (hf7.mono (fun j hj e => .inr (by have := (hRN.base j e.symm).1; omega)))).setCell (.inl rfl) _⟩, by simp [intOf]; omega⟩
 have hkn : k = md.protos.length := by omega
 subst hkn
 rw [List.take_of_length_le (Nat.le_refl _)] at hRk
 obtain ⟨wT, rfl⟩ : ∃ wT, wT = wr := ⟨_, rfl⟩
 have hXT : Lx wT L (pD D) (pD C) s p3 := Blk.fr hXS hFk (fun e => hgL e.symm)
 have hPT : qAq (fun W => tyI.Pt W md.ports vp) wT (fun k => W1.heap.size <= k /\ ¬ k = g) := (hPS.fr hFk (fun k hk hok e => hok.2 e)).mono (fun k _ e => e.1)
 have hFT : Fr (fun k => k = L) W1 wT := hFS.trans (hFk.mono (fun j _ e => .inr (e ▸ hgw)))
 have hLr : L < wT.heap.size := Blk.lt hXT
 have hgr : g < wT.heap.size := hBk.lt
 clear hXS hBS hFS hPS hR C10
 go_wp2
 go_loopg [] md.fmts.length (fun n wr => ∃ done rest p' fv, n = rest.length /\ done ++ rest = md.fmts /\ Lx wr L (pD D) (pD C) s p' /\ Blk wr g [.string md.name, .int .i64 md.port, vp, (.slice Ap md.protos.length cpv), fv, .pointer none, .pointer none, .slice none 0 0, .pointer none, .slice none 0 0] 206 /\ Row wr wT.heap.size 9 1 fv (done.map qI3) /\ FmtsAt s m p' rest /\ Fr (fun k => k = g ∨ k = L) wT wr)
 case atStart => exact ⟨[], md.fmts, p3, .slice none 0 0, rfl, rfl, hXT, hBk, Row.nil _ _ _ _, hf, Fr.refl _ _⟩
 obtain ⟨done, rest, p', fv, hn', hd, hX4, hB4, hR4, hoa, hF4⟩ := hrel
 have HN := hid hn'
 clear hn'
 have hF4L : Fr (fun k => k = L) W1 wr := hFT.trans (hF4.mono (fun j _ e => by
  rcases e with e | e
  · exact .inr (by omega)
  exact .inl e))
 have hE4 : Eof wr a := hE1.fr hF4L (fun e => hl0 e.symm)
 have hdl : (done.map qI3).length <= 1000000000 := by
  have : done.length <= md.fmts.length := by rw [<- hd]; simp
  simp; omega
 have hsl := hF4.size
 cases hoa with
 | nil =>
  have hP0 : qB7 s m m := fun k h1 h2 => by omega
  obtain ⟨Ao, co, rfl, _⟩ := hR4.form
  rw [List.length_map] at hR4 hB4
  have hx0 : s.extract m m = ⟨#[]⟩ := by rw [qDj]; exact congrArg mk (by simp)
  go_upto_region 40 with (first | (go_at_call 173; (with_reducible refine (qAu L (pD D) (pD C) s m m m a _ hX4 hs hE4 hl0 (Nat.le_refl _) hP0 hle.stops).mono ?_); rw [hx0]; rintro e w5 ⟨rfl, hX5, hF5⟩; have hE5 : Eof w5 a := hE4.fr hF5 (fun e => hl0 e.symm)) | (go_at_call 145; (with_reducible refine (qCe L _ _ s m r a _ hX5 hs hE5 hl0 hsz.1 hsz.2 hle.nl hn).mono ?_); rintro e w6 ⟨rfl, hX6, hF6⟩))
  have hF6' : Fr (fun k => k = L) W1 w6 := (hF4L.trans (hF5.mono (fun k _ e => .inl e))).trans (hF6.mono (fun k _ e => .inl e))
  have hFr6 : Fr (fun k => k = g ∨ k = L) wT w6 := (hF4.trans (hF5.mono (fun k _ e => .inl (.inr e)))).trans (hF6.mono (fun k _ e => .inl (.inr e)))
  have hRf := (hR4.fr hF5 (fun k hk e => by have := (hR4.base k hk).1; omega)).fr hF6 (fun k hk e => by have := (hR4.base k hk).1; omega)
  have hRp := hRk.fr hFr6 (fun k hk e => by have := (hRk.base k hk).1; have := hFk.size; have := Blk.lt hXT; rcases e with e | e <;> omega)
  have hB6 := (hB4.fr hF5 hgL).fr hF6 hgL
  have hP6 : qAq (fun W => tyI.Pt W md.ports vp) w6 (fun k => W1.heap.size <= k /\ ¬ k = g) := (hPT.fr hFr6 (fun k hk hok e => by rcases e with e | e <;> omega)).mono (fun k _ e => e.1)
  rw [List.append_nil] at hd
  subst hd
  clear hX4 hB4 hR4 hE4 hX5 hE5 hF5 hF6 hF4 hF4L hPT hXT hRk
  obtain ⟨rows, hM, hMo, hMl, hMd⟩ := hPop.med
  have hown : ∀ k, V1.m.media.ownBlock = some k -> ρ1 k = 10 /\ k < W1.heap.size := fun k hk => ⟨hMo k hk, (hM.base k hk).2⟩
  have hneL : ¬ some L = V1.m.media.ownBlock := fun e => by have := (hown L e.symm).1; rw [hPop.rL] at this; cases this
  have hneD : ¬ some D = V1.m.media.ownBlock := fun e => by have := (hown D e.symm).1; rw [hPop.rD] at this; cases this
  have hD6 : Blk w6 D (qCg q1 V1) 115 := hPop.dd.fr hF6' hnLD
  have hM6 := hM.fr hF6' (fun k hk e => by have := (hown k hk).1; rw [e, hPop.rL] at this; cases this)
  have l0 := hX6.cell 0 rfl
  unfold pD at l0
  have y18 : w6.cell? ⟨D, 18, none⟩ = some V1.m.media := hD6.cell 18 rfl
  have nD := hD6.lt
  have nL := Blk.lt hX6
  have nG := hB6.lt
  have hrl : rows.length <= 1000000001 := by omega
  have hBw : B <= w6.heap.size := by have : B <= D := hPop.kp.zero D (by rw [hPop.rD]; decide); omega
  have hz1 : ([.pointer (some ⟨g, 0, none⟩)] : List Value).length = 1 /\ ∀ u ∈ ([.pointer (some ⟨g, 0, none⟩)] : List Value), u.oneCell' = true := ⟨rfl, fun u hu => by rw [List.mem_singleton.1 hu]; rfl⟩
  have hQ6 : qAq (fun W => qAd.Sl W md.protos (.slice Ap md.protos.length cpv)) w6 (fun k => W1.heap.size <= k /\ ¬ k = g) := qK6 hRp (fun k hk => ⟨by omega, by omega⟩) (by omega) HW.out.1
  have hG6 : qAq (fun W => qAd.Sl W md.fmts (.slice Ao md.fmts.length co)) w6 (fun k => W1.heap.size <= k /\ ¬ k = g) := qK6 hRf (fun k hk => ⟨by omega, by omega⟩) (by omega) HW.out.2.1
  have hwn := HW.out.2.2.1
  have hwi := HW.out.2.2.2
  clear hRp hRf
  have hl2 : (rows ++ [[.pointer (some ⟨g, 0, none⟩)]] : List (List Value)).length = rows.length + 1 := by simp
  go_cut [] from 13 (fun wc => ∃ v8 w8, wc = w8.setCell ⟨D, 18, none⟩ v8 /\ Row w8 B 182 1 v8 (rows ++ [[.pointer (some ⟨g, 0, none⟩)]]) /\ Fr (fun k => some k = V1.m.media.ownBlock) ((w6.alloc (.cells #[.pointer (some ⟨g, 0, none⟩)] 182)).drew) w8 /\ (v8.ownBlock = V1.m.media.ownBlock ∨ ∃ b, v8.ownBlock = some b /\ ((w6.alloc (.cells #[.pointer (some ⟨g, 0, none⟩)] 182)).drew).heap.size <= b))
  case first =>
   clear h hs hE hB hN hN2 hbn hbf h1 hp1 hs1 h2 hp2 hs2 h3 hp3 hs3 hf hle hn hsz hl0 hnLD hnLC hmd c4 c5 c6 c7 c8 hsw HW H1' hB1 hE1 hPop hm1 hLW hgw hgL HG hgv nS hgsb hgz hsz4 hgS hgs2 hga hFk hkl hFT hLr hgr hF6' hFr6 hB6 hP6 hQ6 hG6 hwn hwi hM hMo hMl hMd hown hdl HN hsl hlt hk hP0 hx0
   go_region_law ((refine qA3 rfl ?_; (with_reducible refine qAn B (.tmp 148) (.tmp 149) 113 182 1 (.pointer none) 8 ?_ underlying113 inf182 ?_ ?_ V1.m.media rows [.pointer (some ⟨g, 0, none⟩)] ?_ w6.heap.size ?_ hz1 ?_ ?_ ?_ ?_ ?_ ?_); (focus rfl); (focus rfl); (focus decide); (focus rfl); (focus rfl); (focus (exact fun j u hu => Blk.cell (Blk.made w6 [.pointer (some ⟨g, 0, none⟩)] 182).drew j hu)); (focus (exact (hM6.alloc _).nw (Nw.refl _).drew)); (focus (simp; omega)); (focus omega); (focus omega); intro v8 w8 hr8 hf8 ho8); obtain ⟨Av, cv, rfl, _⟩ := hr8.form; rw [hl2] at hr8 ho8; have hD8 := (hD6.alloc _).drew.fr hf8 hneD; have k8 := hD8.cell 18 rfl; have z8 := hD8.fz 18; have y8 : w8.cell? ⟨L, 0, none⟩ = some (.pointer (some ⟨D, 0, none⟩)) := ((Blk.alloc hX6 _).drew.fr hf8 hneL).cell 0 rfl)
   all_goals
    go_wp2
    go_meet
    case rel => exact ⟨_, _, rfl, hr8, hf8, ho8⟩
  obtain ⟨v8, w8, rfl, hr8, hf8, ho8⟩ := hcut
  obtain ⟨⟨ρ8, h8⟩, hf8'⟩ := hPop.addMed (m := md) (vp := vp) (vq := .slice Ap md.protos.length cpv) (vf := .slice Ao md.fmts.length co) hX6 hF6' hgw hB6 hwn hwi hP6 hQ6 hG6 hM hMo hMl hMd (((Nw.refl _).alloc _).drew) hr8 hf8 ho8
  clear hPop hB6 hP6 hQ6 hG6 hM hMo hMl hMd hr8 hf8 ho8
  go_wp2
  go_ret2
  exact qAr.mk h8 (hB1.trans (hf8'.mono (fun k _ e => .inl e))) hVp
 | cons h1' hp' ho' hs' hr' =>
  rename_i m4 p4 x rest
  have hze : x.toList.isEmpty = false := by
   have hlt := hs'.lt
   rw [<- ho', qE5]
   simp only [ByteArray.size_extract, decide_eq_false_iff_not]
   omega
  have HO := hid ho'
  clear ho'
  go_upto_region 36 with (go_at_call 173; (with_reducible refine (qAu L (pD D) (pD C) s p' m4 p4 a _ hX4 hs hE4 hl0 (Nat.le_of_lt h1') hp' hs').mono ?_); rw [HO.out]; rintro e w5 ⟨rfl, hX5, hF5⟩; have hB5 := hB4.fr hF5 hgL; have hR5 := hR4.fr hF5 (fun k hk e => by have := (hR4.base k hk).1; omega))
  have c4 := hB5.cell 4 rfl
  have hgw5 := hB5.lt
  have hneg : ¬ some g = fv.ownBlock := fun e => by have := (hR5.base g e.symm).1; omega
  have hl1 : (done.map qI3 ++ [qI3 x]).length = done.length + 1 := by simp
  have hs5 := hF5.size
  go_wp2_with ((refine qAc rfl fun K hK => ?_; (with_reducible refine qAn wT.heap.size (.tmp 125) (.tmp 127) 25 9 1 (.string ⟨#[]⟩) 16 ?_ underlying25 inf9 ?_ ?_ fv (done.map qI3) (qI3 x) ?_ w5.heap.size ?_ (qMu x) ?_ ?_ ?_ ?_ ?_ ?_); (focus rfl); (focus rfl); (focus decide); (focus rfl); (focus rfl); (focus (exact fun j u hu => Blk.cell (Blk.made w5 (qI3 x) 9) j hu)); (focus (exact hR5.alloc _)); (focus (simp; omega)); (focus omega); (focus omega); intro v7 w7 hr7 hf7 ho7; refine hK _ _ ?_); obtain ⟨Av, cv, rfl, _⟩ := hr7.form; rw [hl1] at hr7 ho7; have hB7 := (Blk.alloc hB5 _).fr hf7 hneg; have c7 := hB7.cell 4 rfl; have f7 := hB7.fz 4)
  have hF7 : Fr (fun k => k = g ∨ k = L) wT (w7.setCell ⟨g, 4, none⟩ (.slice Av (done.length + 1) cv)) :=
   ((((hF4.trans (hF5.mono (fun k _ e => .inl (.inr e)))).alloc _).trans (hf7.mono (fun k _ e => .inr (hR5.base k e.symm).1)))).setCell (.inl (.inl rfl)) _
  have hX7 : Lx (w7.setCell ⟨g, 4, none⟩ (.slice Av (done.length + 1) cv)) L (pD D) (pD C) s p4 :=
   Blk.other ((Blk.alloc hX5 _).fr hf7 (fun e => by have := (hR5.base L e.symm).1; omega)) (fun e => hgL e.symm) _
  have hR8 : Row (w7.setCell ⟨g, 4, none⟩ (.slice Av (done.length + 1) cv)) wT.heap.size 9 1 (.slice Av (done.length + 1) cv) ((done ++ [x]).map qI3) := by
   rw [List.map_append]
   exact hr7.fr (Fr.self (p := ⟨g, 4, none⟩) _) (fun k hk e => by have := (hr7.base k hk).1; have : k = g := e; omega)
  go_roundg rest.length
  case measure => rw [HN.out]; simp
  case rel => exact ⟨done ++ [x], rest, p4, .slice Av (done.length + 1) cv, rfl, by rw [<- hd]; simp, hX7, Blk.setM hB7 4 _ rfl, hR8, hr', hF7⟩
end Go.Proofs.YtcepdjlknalmnaaGreatDoor

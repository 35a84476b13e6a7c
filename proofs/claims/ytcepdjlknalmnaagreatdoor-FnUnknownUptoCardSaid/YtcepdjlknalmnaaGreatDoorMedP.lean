/- What the lines of a medium do, but for the medium's own. -/
import Derived.Test.YtcepdjlknalmnaaGreatDoorMedB
import Derived.Test.YtcepdjlknalmnaaGreatDoorStepE
import Derived.Test.YtcepdjlknalmnaaGreatDoorBwB
import Derived.Test.YtcepdjlknalmnaaGreatDoorLks
namespace Go.Proofs.YtcepdjlknalmnaaGreatDoor
open Go.RowKit
set_option linter.unusedSimpArgs false
set_option linter.unusedVariables false
attribute [local go_sem ↓] Go.wp_at_zero Go.wp_at_succ

set_option maxRecDepth 100000 in
theorem step_mi (B : Nat) (w : World) (ρ : Nat → Nat) (L D C : Nat) (s : ByteArray) (p m r : Nat) (q : Pst) (V : Vs) (N : Nat) (y : Med) (h : PS B w ρ L D C s p q V) (hs : WfStr s) (hN : Small N q) (hN2 : N ≤ 1000000000) (hmc : q.mc = some y) (hpm : p ≤ m) (hW : Whole s p m) (hle : LineEnd s m r) :
    Calls Tryz.prog 275 #[.pointer (some ⟨L, 0, none⟩)] w (Stepped V.pro B w L D C s r (q.app (.mi (s.extract p m))) 283) := by
  obtain ⟨x, hx⟩ : ∃ x, x = s.extract p m := ⟨_, rfl⟩
  have hwx : WfStr x := by rw [hx]; exact extract_wf _ _ hs
  have HX := Lib.hid hx
  have hmd := hN.md
  clear hx
  go_enter Tryz.func275, Tryz.ntmps275
  go_upto_region 4 with (go_at_call 213; (with_reducible refine (lex_readLine L _ _ s p m r _ h.lx hs hpm hW hle).mono ?_); rw [← HX.out]; rintro e w1 ⟨rfl, hx1, hf1⟩; have h1 := h.lex hf1 hx1; have l0 := h1.lx.cell 0 rfl; unfold pD at l0)
  obtain ⟨T, c, d18, m0, _, nT⟩ := h1.last hmc
  go_quiet (fail)
  obtain ⟨w2, hw2⟩ : ∃ w2, w2 = w1.drewN nq := ⟨_, rfl⟩
  have n2 : Nw w1 w2 := by rw [hw2]; exact (Nw.refl w1).drewN _
  rw [← hw2]
  clear hw2 d18 m0 l0
  have h2 := h1.nw n2
  obtain ⟨_, _, _, _, hC2, _⟩ := h2.last hmc
  have c5 := hC2.blk.cell 5 rfl
  have f5 := hC2.blk.fz 5
  have nM := hC2.blk.lt
  go_wp2
  go_ret2
  rw [← HX.out]
  have hq : q.app (.mi x) = { q with mc := some { y with title := [x] } } := by simp [Pst.app, hmc]
  rw [hq]
  have e1 : (w2.setCell ⟨V.m.M, 5, none⟩ (.pointer (some ⟨w2.heap.size, 0, none⟩))).heap.size = w2.heap.size := by simp [World.setCell]
  exact Stepped.mk (h2.mset (y' := { y with title := [x] }) (Vm := { V.m with mtitle := .pointer (some ⟨w2.heap.size, 0, none⟩) }) hmc (by (repeat (first | (with_reducible assumption) | (with_reducible exact Fr.refl _ _) | (with_reducible refine Fr.drew ?_) | (with_reducible refine Fr.drewN ?_ _) | (with_reducible refine Fr.alloc ?_ _) | (with_reducible refine Fr.put ?_ _)))) ⟨rfl, rfl⟩ (fun k1 k2 k3 => ⟨(hC2.blk.set 5 _).alloc _, k3, hC2.name, hC2.port, k1 _ hC2.ports, k1 _ hC2.protos, k1 _ hC2.fmts, foot_pt (Blk.made' e1.symm [.string x] 162) (ext_new (Nat.le_refl _)) (foot_str hwx), k1 _ hC2.conn, k2, k1 _ hC2.key⟩))
    ((hf1.mono (fun k _ e => e ▸ h.BL)).trans ((n2.fr _).trans (((Fr.refl _ _).setCell (.inl (.inl (.inl (h2.kp.zero _ (by rw [hC2.own]; decide))))) _).alloc _)))
set_option maxRecDepth 100000 in
theorem step_mkey (B : Nat) (w : World) (ρ : Nat → Nat) (L D C : Nat) (s : ByteArray) (p m r : Nat) (q : Pst) (V : Vs) (N : Nat) (y : Med) (h : PS B w ρ L D C s p q V) (hs : WfStr s) (hN : Small N q) (hN2 : N ≤ 1000000000) (hmc : q.mc = some y) (hpm : p ≤ m) (hW : Whole s p m) (hle : LineEnd s m r) :
    Calls Tryz.prog 272 #[.pointer (some ⟨L, 0, none⟩)] w (Stepped V.pro B w L D C s r (q.app (.mkey (s.extract p m))) 281) := by
  obtain ⟨x, hx⟩ : ∃ x, x = s.extract p m := ⟨_, rfl⟩
  have hwx : WfStr x := by rw [hx]; exact extract_wf _ _ hs
  have HX := Lib.hid hx
  have hmd := hN.md
  clear hx
  go_enter Tryz.func272, Tryz.ntmps272
  go_upto_region 4 with (go_at_call 213; (with_reducible refine (lex_readLine L _ _ s p m r _ h.lx hs hpm hW hle).mono ?_); rw [← HX.out]; rintro e w1 ⟨rfl, hx1, hf1⟩; have h1 := h.lex hf1 hx1; have l0 := h1.lx.cell 0 rfl; unfold pD at l0)
  obtain ⟨T, c, d18, m0, _, nT⟩ := h1.last hmc
  go_quiet (fail)
  obtain ⟨w2, hw2⟩ : ∃ w2, w2 = w1.drewN nq := ⟨_, rfl⟩
  have n2 : Nw w1 w2 := by rw [hw2]; exact (Nw.refl w1).drewN _
  rw [← hw2]
  clear hw2 d18 m0 l0
  have h2 := h1.nw n2
  obtain ⟨_, _, _, _, hC2, _⟩ := h2.last hmc
  have c5 := hC2.blk.cell 8 rfl
  have f5 := hC2.blk.fz 8
  have nM := hC2.blk.lt
  go_wp2
  go_ret2
  rw [← HX.out]
  have hq : q.app (.mkey x) = { q with mc := some { y with key := [x] } } := by simp [Pst.app, hmc]
  rw [hq]
  have e1 : (w2.setCell ⟨V.m.M, 8, none⟩ (.pointer (some ⟨w2.heap.size, 0, none⟩))).heap.size = w2.heap.size := by simp [World.setCell]
  exact Stepped.mk (h2.mset (y' := { y with key := [x] }) (Vm := { V.m with mkey := .pointer (some ⟨w2.heap.size, 0, none⟩) }) hmc (by (repeat (first | (with_reducible assumption) | (with_reducible exact Fr.refl _ _) | (with_reducible refine Fr.drew ?_) | (with_reducible refine Fr.drewN ?_ _) | (with_reducible refine Fr.alloc ?_ _) | (with_reducible refine Fr.put ?_ _)))) ⟨rfl, rfl⟩ (fun k1 k2 k3 => ⟨(hC2.blk.set 8 _).alloc _, k3, hC2.name, hC2.port, k1 _ hC2.ports, k1 _ hC2.protos, k1 _ hC2.fmts, k1 _ hC2.title, k1 _ hC2.conn, k2, foot_pt (Blk.made' e1.symm [.string x] 171) (ext_new (Nat.le_refl _)) (foot_str hwx)⟩))
    ((hf1.mono (fun k _ e => e ▸ h.BL)).trans ((n2.fr _).trans (((Fr.refl _ _).setCell (.inl (.inl (.inl (h2.kp.zero _ (by rw [hC2.own]; decide))))) _).alloc _)))
theorem Blk.setM {w : World} {g : Nat} {l l' : List Value} {t : TypeId} (h : Blk w g l t) (j : Nat) (u : Value) (e : l.set j u = l') : Blk (w.setCell ⟨g, j, none⟩ u) g l' t := e ▸ h.set j u
set_option maxRecDepth 100000 in
theorem step_mc (B : Nat) (w : World) (ρ : Nat → Nat) (L D C : Nat) (s : ByteArray) (p m1 p1 m2 p2 m r : Nat) (q : Pst) (V : Vs) (a : Addr) (N : Nat) (y : Med) (x : Con) (h : PS B w ρ L D C s p q V) (hs : WfStr s) (hE : Eof w a) (hN : Small N q) (hN2 : N ≤ 1000000000) (hmc : q.mc = some y)
    (h1 : p ≤ m1) (hp1 : Plain s p m1) (hs1 : Stops s m1 p1) (h2 : p1 ≤ m2) (hp2 : Plain s p1 m2) (hs2 : Stops s m2 p2) (h3 : p2 < m) (hp3 : Plain s p2 m) (hle : LineEnd s m r) (hn : NextAt s r)
    (hi1 : isIn (s.extract p m1) inT = true) (hi2 : isIn (s.extract p1 m2) ipTypes = true) (hx : flatCon x = ⟨s.extract p m1, s.extract p1 m2, [⟨s.extract p2 m, [], []⟩]⟩) :
    Calls Tryz.prog 274 #[.pointer (some ⟨L, 0, none⟩)] w (Stepped V.pro B w L D C s r (q.app (.mc x)) 282) := by
  have hwf1 := extract_wf p m1 hs
  have hwf2 := extract_wf p1 m2 hs
  have hwf3 := extract_wf p2 m hs
  have l0 := h.lx.cell 0 rfl
  unfold pD at l0
  have hl0 := h.lne
  have HX := Lib.hid hx
  have hmd := hN.md
  clear hx
  obtain ⟨T, c, d18, m0, _, nT⟩ := h.last hmc
  go_enter Tryz.func274, Tryz.ntmps274
  go_upto_region 2 with fail
  go_quiet (fail)
  obtain ⟨w0, hw0⟩ : ∃ w0, w0 = w.drewN nq := ⟨_, rfl⟩
  have n0 : Nw w w0 := by rw [hw0]; exact (Nw.refl w).drewN _
  rw [← hw0]
  clear hw0 d18 m0 l0
  have g0 := h.nw n0
  have hE0 : Eof w0 a := hE.nw n0
  obtain ⟨_, _, _, _, hC0, _⟩ := g0.last hmc
  have nM := hC0.blk.lt
  have hML : ¬ V.m.M = L := fun e => by have := hC0.own; rw [e, g0.rL] at this; cases this
  go_wp2_with (go_at_call 229; (with_reducible refine (par_conn L (pD D) (pD C) s p m1 p1 m2 p2 m r a _ g0.lx hs hE0 hl0 h1 hp1 hs1 h2 hp2 hs2 h3 hp3 hle hn hi1 hi2).mono ?_); rintro e w1 ⟨g, g', rfl, hg, hg', hB1, hC1, hX1, hF1⟩; have hM1 := hC0.blk.fr hF1 hML; have c6 := hM1.cell 6 rfl; have f6 := hM1.fz 6)
  go_ret2
  have g1 := g0.lexN hF1 hX1
  obtain ⟨_, _, _, _, hC2, _⟩ := g1.last hmc
  have e : q.app (.mc x) = { q with mc := some { y with conn := [⟨s.extract p m1, s.extract p1 m2, [⟨s.extract p2 m, [], []⟩]⟩] } } := by
    simp only [Pst.app, hmc, Option.map_some, HX.out]
  rw [e]
  have o1 : ∀ k, w0.heap.size ≤ k → k < w1.heap.size → ext (ext (ext ρ w.heap.size (fun _ => 0)) w0.heap.size (fun _ => 0)) w1.heap.size (fun _ => 0) k = 0 := fun k k1 k2 => by rw [ext_old k2, ext_new k1]
  have n3 : ¬ g = V.m.M := fun e => by omega
  have n4 : ¬ g' = V.m.M := fun e => by omega
  exact Stepped.mk (g1.mset (y' := { y with conn := [⟨s.extract p m1, s.extract p1 m2, [⟨s.extract p2 m, [], []⟩]⟩] }) (Vm := { V.m with mconn := .pointer (some ⟨g, 0, none⟩) }) hmc (by (repeat (first | (with_reducible assumption) | (with_reducible exact Fr.refl _ _) | (with_reducible refine Fr.drew ?_) | (with_reducible refine Fr.drewN ?_ _) | (with_reducible refine Fr.alloc ?_ _) | (with_reducible refine Fr.put ?_ _)))) ⟨rfl, rfl⟩ (fun k1 k2 k3 => ⟨hM1.set 6 _, k3, hC2.name, hC2.port, k1 _ hC2.ports, k1 _ hC2.protos, k1 _ hC2.fmts, k1 _ hC2.title, foot_con (hB1.other n3 _) (hC1.other n4 _) (o1 g hg hB1.lt) (o1 g' hg' hC1.lt) hwf1 hwf2 hwf3, k2, k1 _ hC2.key⟩))
    ((n0.fr _).trans ((hF1.mono (fun k _ e => .inl (e ▸ h.BL))).trans ((Fr.refl _ _).setCell (.inl (.inl (.inl (g0.kp.zero _ (by rw [hC0.own]; decide))))) _)))
set_option maxRecDepth 100000 in
set_option maxHeartbeats 1000000 in
theorem step_mb (B : Nat) (w : World) (ρ : Nat → Nat) (L D C : Nat) (s : ByteArray) (p m r : Nat) (q : Pst) (V : Vs) (N : Nat) (y : Med) (b : Bwd) (h : PS B w ρ L D C s p q V) (hs : WfStr s) (hN : Small N q) (hN2 : N ≤ 1000000000) (hmc : q.mc = some y) (hpm : p ≤ m) (hW : Whole s p m) (hle : LineEnd s m r)
    (hb : bwB b = true) (hwb : WfStr b.ty ∧ WfInt .u64 b.n) (hx : s.extract p m = mk (bwBd b)) (hsz : (bwBd b).length ≤ 1000000000000) :
    Calls Tryz.prog 273 #[.pointer (some ⟨L, 0, none⟩)] w (Stepped V.pro B w L D C s r (q.app (.mb b)) 282) := by
  have hmd := hN.md
  go_enter Tryz.func273, Tryz.ntmps273
  go_upto_region 4 with (go_at_call 213; (with_reducible refine (lex_readLine L _ _ s p m r _ h.lx hs hpm hW hle).mono ?_); rw [hx]; rintro e w1 ⟨rfl, hx1, hf1⟩; have h1 := h.lex hf1 hx1; have l0 := h1.lx.cell 0 rfl; unfold pD at l0)
  obtain ⟨T, c, d18, m0, _, nT⟩ := h1.last hmc
  go_quiet (fail)
  obtain ⟨w2, hw2⟩ : ∃ w2, w2 = w1.drewN nq := ⟨_, rfl⟩
  have n2 : Nw w1 w2 := by rw [hw2]; exact (Nw.refl w1).drewN _
  rw [← hw2]
  clear hw2 d18 m0 l0
  have h2 := h1.nw n2
  clear h1
  go_upto_region 8 with (go_at_call 231; (with_reducible refine (par_bw b w2 hb hwb hsz).mono ?_); rintro e w3 ⟨g, rfl, hg1, hB3, hn3⟩)
  have h3 := h2.nw hn3
  obtain ⟨_, _, _, _, hC3, _⟩ := h3.last hmc
  have hrow : Row w3 B 198 3 V.m.mbws (y.bws.map encBwd) := (RowT.toFlat hC3.bws.1).1
  have hown := hC3.bws.2
  have d7 := hC3.blk.cell 7 rfl
  have e7 := hC3.blk.fz 7
  have g0 := hB3.cell 0 (u := .bool b.x) rfl
  have g1 := hB3.cell 1 (u := .string b.ty) rfl
  have g2 := hB3.cell 2 (u := .int .u64 b.n) rfl
  have nM := hC3.blk.lt
  have nG := hB3.lt
  have hrl : (y.bws.map encBwd).length ≤ 1000000000 := by have := hN.mbws y hmc; simp; omega
  have hBw : B ≤ w3.heap.size := by have := h3.BD; have := h3.dd.lt; omega
  have hneM : ¬ some V.m.M = V.m.mbws.ownBlock := fun e => by have := hown _ e.symm; rw [hC3.own] at this; cases this
  go_region_law ((refine at_step rfl ?_; (with_reducible refine row_appendG B (.tmp 48) (.tmp 52) 108 198 3 (.agg #[.bool false, .string ⟨#[]⟩, .int .u64 0]) 32 ?_ Tryz.underlying108 inf198 ?_ ?_ V.m.mbws (y.bws.map encBwd) (encBwd b) ?_ w3.heap.size ?_ (encBwd_one b) ?_ ?_ ?_ ?_ ?_ ?_); (focus rfl); (focus rfl); (focus decide); (focus rfl); (focus rfl); (focus (exact fun j u hu => Blk.cell (Blk.made w3 (encBwd b) 198).drew j hu)); (focus (exact (hrow.alloc _).nw (Nw.refl _).drew)); (focus (simp; omega)); (focus omega); (focus omega); intro v6 w6 hr6 hf6 ho6); obtain ⟨Av, cv, rfl, _⟩ := hr6.form; have hM6 := (hC3.blk.alloc _).drew.fr hf6 hneM; have k6 := hM6.cell 7 rfl; have z6 := hM6.fz 7)
  all_goals
    go_wp2
    go_ret2
    obtain ⟨⟨ρ', h'⟩, hf'⟩ := h3.addMb hmc (((Nw.refl _).alloc _).drew) hr6 hf6 ho6 hwb
    refine Stepped.mk (by simpa using h') (by simpa using (hf1.mono (fun k _ e => e ▸ h.BL)).trans (((n2.trans hn3).fr _).trans (hf'.mono (fun k _ e => .inl (.inl e))))) ?_
    rfl
end Go.Proofs.YtcepdjlknalmnaaGreatDoor

/- The parts of a medium's line. Plain laws, and the two tests against lists. -/
namespace Go.Proofs.YtcepdjlknalmnaaGreatDoor
open Go.RowKit
set_option linter.unusedSimpArgs false
set_option linter.unusedVariables false

theorem split_join {z : UInt8} : ∀ (xs : List ByteArray) (x : ByteArray), (∀ y ∈ x :: xs, ∀ c ∈ bs y, c ≠ z) → splitB z (joinB [z] (x :: xs)) = (x :: xs).map bs := by
  intro xs
  induction xs with
  | nil =>
    intro x h
    have e1 : joinB [z] [x] = bs x := by simp [joinB]
    rw [e1, splitB_all (h x List.mem_cons_self)]
    rfl
  | cons x2 xs ih =>
    intro x h
    have e1 : joinB [z] (x :: x2 :: xs) = bs x ++ z :: joinB [z] (x2 :: xs) := by simp [joinB]
    rw [e1, splitB_app (h x List.mem_cons_self), ih x2 (fun y hy => h y (List.mem_cons_of_mem _ hy))]
    rfl
theorem in_ne {x : ByteArray} {xs : List ByteArray} {z : UInt8} (h : isIn x xs = true) (hx : xs.all (fun y => (bs y).all (fun c => c != z)) = true) : ∀ c ∈ bs x, c ≠ z := by
  obtain ⟨y, hy, e⟩ := isIn_mem h
  have := List.all_eq_true.1 hx y hy
  rw [← e]
  intro c hc
  simpa using List.all_eq_true.1 this c hc
theorem proto_split {xs : List ByteArray} (h0 : 0 < xs.length) (h : ∀ x ∈ xs, isIn x protoNames = true) : splitB 47 (joinB [47] xs) = xs.map bs := by
  match xs, h0 with
  | x :: xs, _ => exact split_join xs x (fun y hy => in_ne (h y hy) (by decide))
theorem decI_nat {n : Int} (h0 : 0 ≤ n) (h1 : n ≤ 1000000000) : (Lib.decDigits (Int.toNat (n % 18446744073709551616))) = Lib.decDigits n.toNat := by
  congr 2
  omega
theorem dec_ne47 (u : Nat) : ∀ c ∈ Lib.decDigits u, c ≠ 47 := fun c hc e => by have := dec_digit u c hc; rw [e] at this; exact absurd this.1 (by decide)
theorem port_split0 {m : Med} (h0 : 0 ≤ m.port) (h1 : m.port ≤ 65535) (hp : m.ports = []) : splitB 47 (portL m) = [Lib.decDigits m.port.toNat] := by
  have e : portL m = Lib.decDigits m.port.toNat := by
    unfold portL
    rw [hp, decI_nat h0 (by omega)]
    simp [numsL]
  rw [e, splitB_all (dec_ne47 _)]
theorem port_split1 {m : Med} {n : Int} (h0 : 0 ≤ m.port) (h1 : m.port ≤ 65535) (hp : m.ports = [n]) (k0 : 0 ≤ n) (k1 : n ≤ 10000) : splitB 47 (portL m) = [Lib.decDigits m.port.toNat, Lib.decDigits n.toNat] := by
  have e : portL m = Lib.decDigits m.port.toNat ++ 47 :: Lib.decDigits n.toNat := by
    have e2 : numsL [n] = 47 :: Lib.decDigits n.toNat := by
      rw [← decI_nat k0 (by omega)]
      simp [numsL]
    unfold portL
    rw [hp, decI_nat h0 (by omega), e2]
  rw [e, splitB_app (dec_ne47 _), splitB_all (dec_ne47 _)]
theorem par_anyOf_med (x : ByteArray) (g : Nat) (w : World) (hb : Blk w g [.string ⟨#[97, 117, 100, 105, 111]⟩, .string ⟨#[118, 105, 100, 101, 111]⟩, .string ⟨#[116, 101, 120, 116]⟩, .string ⟨#[97, 112, 112, 108, 105, 99, 97, 116, 105, 111, 110]⟩, .string ⟨#[109, 101, 115, 115, 97, 103, 101]⟩] 9) (hi : isIn x medNames = true) : Calls Tryz.prog 174 #[.string x, .slice (some ⟨g, 0, none⟩) 5 5] w fun e w' => e = .returned (.bool true) ∧ w = w' :=
  (par_anyOf x medNames _ w (sl_blk hb (wf_short (by decide)) rfl (by decide) (by decide))).mono (fun _ _ h => ⟨by rw [h.1, hi], h.2⟩)
def protoAll : List ByteArray := protoNames ++ [⟨#[84, 67, 80]⟩, ⟨#[77, 83, 82, 80]⟩, ⟨#[66, 70, 67, 80]⟩, ⟨#[85, 68, 84]⟩, ⟨#[73, 88]⟩, ⟨#[77, 82, 67, 80, 118, 50]⟩, ⟨#[70, 69, 67]⟩]
theorem par_anyOf_proto (x : ByteArray) (g : Nat) (w : World) (hb : Blk w g [.string ⟨#[85, 68, 80]⟩, .string ⟨#[82, 84, 80]⟩, .string ⟨#[65, 86, 80]⟩, .string ⟨#[83, 65, 86, 80]⟩, .string ⟨#[83, 65, 86, 80, 70]⟩, .string ⟨#[84, 76, 83]⟩, .string ⟨#[68, 84, 76, 83]⟩, .string ⟨#[83, 67, 84, 80]⟩, .string ⟨#[65, 86, 80, 70]⟩, .string ⟨#[84, 67, 80]⟩, .string ⟨#[77, 83, 82, 80]⟩, .string ⟨#[66, 70, 67, 80]⟩, .string ⟨#[85, 68, 84]⟩, .string ⟨#[73, 88]⟩, .string ⟨#[77, 82, 67, 80, 118, 50]⟩, .string ⟨#[70, 69, 67]⟩] 9)
    (hi : isIn x protoNames = true) : Calls Tryz.prog 174 #[.string x, .slice (some ⟨g, 0, none⟩) 16 16] w fun e w' => e = .returned (.bool true) ∧ w = w' := by
  have h16 : isIn x protoAll = true := by
    unfold isIn protoAll at *
    rw [List.any_append, hi]; rfl
  exact (par_anyOf x protoAll _ w (sl_blk hb (wf_short (by decide)) rfl (by decide) (by decide))).mono (fun _ _ h => ⟨by rw [h.1, h16], h.2⟩)
theorem app_lm (q : Pst) (m : Med) (h : q.mc = none → q.ma = []) : q.app (.lm m) = { q.pop with mc := some (med0 m) } := by
  cases hc : q.mc with
  | none => simp [Pst.app, Pst.pop, hc, h hc]
  | some y => simp [Pst.app, Pst.pop, hc]
theorem join47_le {n : Nat} {xs : List ByteArray} (h : ∀ x ∈ xs, x.size ≤ n) : (joinB [47] xs).length ≤ xs.length * (n + 1) := by
  have h1 : ∀ l : List ByteArray, (∀ x ∈ l, x.size ≤ n) → (l.flatMap (fun y => [47] ++ bs y)).length ≤ l.length * (n + 1) := fun l => by
    induction l with
    | nil => intro _; simp
    | cons a l ih =>
      intro h
      have e : (bs a).length = a.size := len_list a
      have := h a List.mem_cons_self
      have := ih (fun x hx => h x (List.mem_cons_of_mem _ hx))
      simp only [List.flatMap_cons, List.length_append, List.length_cons, List.length_nil, Nat.succ_mul]
      omega
  cases xs with
  | nil => simp [joinB]
  | cons x xs =>
    have e : (bs x).length = x.size := len_list x
    have := h x List.mem_cons_self
    have := h1 xs (fun y hy => h y (List.mem_cons_of_mem _ hy))
    simp only [joinB, List.length_append, List.length_cons, Nat.succ_mul]
    omega
theorem in_size {x : ByteArray} {xs : List ByteArray} {n : Nat} (h : isIn x xs = true) (hx : xs.all (fun y => decide (y.size ≤ n)) = true) : x.size ≤ n := by
  obtain ⟨y, hy, e⟩ := isIn_mem h
  have h1 : y.size ≤ n := by simpa using List.all_eq_true.1 hx y hy
  have : x.size = y.size := by rw [← len_list, ← len_list]; exact congrArg List.length e.symm
  omega
theorem port_le {m : Med} (h0 : 0 ≤ m.port) (h1 : m.port ≤ 65535) (hl : m.ports.length ≤ 1) : (portL m).length ≤ 1000 := by
  have hd : ∀ u, u < 18446744073709551616 → (Lib.decDigits u).length ≤ 20 := fun u hu => by
    have := dec_len hu
    rwa [mk_size] at this
  have hm : ∀ n : Int, ((Lib.decDigits (Int.toNat (n % 18446744073709551616)))).length ≤ 20 := fun n => hd _ (by omega)
  have h3 := hm m.port
  unfold portL
  rw [List.length_append]
  match m.ports, hl with
  | [], _ => simp [numsL]; omega
  | [n], _ =>
    have h4 := hm n
    simp [numsL]; omega
def encS (x : ByteArray) : List Value := [.string x]
theorem encS_one (x : ByteArray) : (encS x).length = 1 ∧ ∀ u ∈ encS x, u.oneCell' = true := ⟨rfl, fun u hu => by rw [List.mem_singleton.1 hu]; rfl⟩
theorem foot_strs {w : World} {B : Nat} {v : Value} {xs : List ByteArray} {ok : Nat → Prop} (h : Row w B 9 1 v (xs.map encS)) (hb : ∀ k, B ≤ k → ok k) (hm : xs.length ≤ 140737488355328) (hw : ∀ x ∈ xs, WfStr x) : Foot (fun W => tyStr.Sl W xs v) w ok := fun W hW =>
  Row.slFlat (enc := fun s => [Value.string s]) (hl := fun _ => rfl) (h1 := fun _ u hu => by rw [List.mem_singleton.1 hu]; rfl) (h.move (fun k hk => hW k (hb k (h.base k hk).1) (h.base k hk).2)) hm hw
end Go.Proofs.YtcepdjlknalmnaaGreatDoor

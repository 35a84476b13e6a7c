/- What the thin package reads out of the package's session. Written by a small program of this claim's own (genpla). -/
import Derived.Test.YtcepdjlknalmnaaGreatDoorFin
import Derived.Test.YtcepdjlknalmnaaGreatDoorSes
import Derived.Deep.RegionLaw
import Derived.Deep.RegionHeldLaw
set_option linter.unusedSimpArgs false
set_option linter.unusedVariables false
namespace Go.Proofs.YtcepdjlknalmnaaGreatDoor
open Tryz
open Lib (hid)
open Go.RowKit
attribute [local go_sem ↓] Go.wp_at_zero Go.wp_at_succ qF2
attribute [local go_sem] qFb qHc qHd qG1 qD6 qF3 qB5 qCv
theorem inf84 : (prog.info? 84).map (fun i => (i.zero, i.size, i.bytes)) = some (some (.agg #[.string ⟨#[]⟩, .int .i64 0, .slice none 0 0, .slice none 0 0, .slice none 0 0, .slice none 0 0, .slice none 0 0, .slice none 0 0, .slice none 0 0, .slice none 0 0]), 10, 216) := by kernel_rfl
theorem inf80 : (prog.info? 80).map (fun i => (i.zero, i.size, i.bytes)) = some (some (.agg #[.int .u64 0, .int .i64 0]), 2, 16) := by kernel_rfl
theorem wp_one84 {o : Oper} {act : Act} {w : World} {K : Act -> World -> Prop} {Q : Exit -> Act -> World -> Prop} (x : Operand) (ho : o.op = .buildSlice 31 1 #[(0, x)]) (a : ByteArray) (b : Int) (A0 : Option Addr) (a0 b0 : Nat) (A1 : Option Addr) (a1 b1 : Nat) (A2 : Option Addr) (a2 b2 : Nat) (A3 : Option Addr) (a3 b3 : Nat) (A4 : Option Addr) (a4 b4 : Nat) (A5 : Option Addr) (a5 b5 : Nat) (A6 : Option Addr) (a6 b6 : Nat) (A7 : Option Addr) (a7 b7 : Nat)
 (hx : act.eval x = .agg #[.string a, .int .i64 b, .slice A0 a0 b0, .slice A1 a1 b1, .slice A2 a2 b2, .slice A3 a3 b3, .slice A4 a4 b4, .slice A5 a5 b5, .slice A6 a6 b6, .slice A7 a7 b7]) (h : K (act.put o.dst (.slice (some ⟨w.heap.size, 0, none⟩) 1 1)) (w.alloc (.cells #[.string a, .int .i64 b, .slice A0 a0 b0, .slice A1 a1 b1, .slice A2 a2 b2, .slice A3 a3 b3, .slice A4 a4 b4, .slice A5 a5 b5, .slice A6 a6 b6, .slice A7 a7 b7] 84))) : o.wp prog act w K Q := by
 obtain ⟨i0, hi, hzz⟩ := Option.map_eq_some_iff.1 inf84
 simp only [Prod.mk.injEq] at hzz
 obtain ⟨hz0, hz1, _⟩ := hzz
 refine wp_buildSlice 31 84 1 _ ho _ i0 _ underlying31 hi hz0 (by rw [hz1]; decide) (by rw [hz1]; decide) ?_ h
 have e1 : ((#[(0, x)] : Array (Nat × Operand)).map fun (i, x) => (i, act.eval x)).toList = [(0, .agg #[.string a, .int .i64 b, .slice A0 a0 b0, .slice A1 a1 b1, .slice A2 a2 b2, .slice A3 a3 b3, .slice A4 a4 b4, .slice A5 a5 b5, .slice A6 a6 b6, .slice A7 a7 b7])] := by simp [hx]
 rw [e1, hz1]
 change Instr.fill _ _ _ = some _
 kernel_rfl
theorem infp71 : (prog.info? 71).map (fun i => (i.zero, i.size, i.bytes)) = some (some (.agg #[.int .u64 0, .int .u64 0, .slice none 0 0]), 3, 40) := by kernel_rfl
theorem timp (a b : Int) (A : Option Addr) (n c : Nat) : ([.int .u64 a, .int .u64 b, .slice A n c] : List Value).length = 3 /\ ∀ u ∈ ([.int .u64 a, .int .u64 b, .slice A n c] : List Value), u.oneCell' = true := by
 refine ⟨rfl, fun u hu => ?_⟩
 simp only [List.mem_cons, List.not_mem_nil, or_false] at hu
 rcases hu with rfl | rfl | rfl <;> rfl
theorem infp77 : (prog.info? 77).map (fun i => (i.zero, i.size, i.bytes)) = some (some (.agg #[.int .i64 0, .int .i64 0, .slice none 0 0]), 3, 40) := by kernel_rfl
theorem repp (a b : Int) (A : Option Addr) (n c : Nat) : ([.int .i64 a, .int .i64 b, .slice A n c] : List Value).length = 3 /\ ∀ u ∈ ([.int .i64 a, .int .i64 b, .slice A n c] : List Value), u.oneCell' = true := by
 refine ⟨rfl, fun u hu => ?_⟩
 simp only [List.mem_cons, List.not_mem_nil, or_false] at hu
 rcases hu with rfl | rfl | rfl <;> rfl
theorem qCy {Q : World -> Prop} {c z wc : World} {g4 n0 : Nat} (h : qAq Q z (fun k => c.heap.size <= k)) (hf : Fr (fun k => k = g4) z wc) (h0 : n0 <= c.heap.size) (hg : g4 < c.heap.size ∨ z.heap.size <= g4) : qAq Q wc (fun k => n0 <= k /\ ¬ k = g4) :=
 (h.fr hf (fun k hk hok e => by omega)).mono (fun k _ e => ⟨by omega, by omega⟩)
set_option maxRecDepth 100000 in
set_option maxHeartbeats 40000000 in
theorem qK9 (x : Ssn) (D : Nat) (w : World) (vi vu ve vp vc vb vt vz vk va vm : Value) (hD : Blk w D (qEd x vi vu ve vp vc vb vt vz vk va vm) 115) (m : PSsnAt w x vi vu ve vp vc vb vt vz vk va vm) (hv : qAg .i64 x.ver)
 (hl : x.bws.length <= 2147483647 /\ x.atts.length <= 2147483647 /\ x.times.length <= 2147483647 /\ x.zones.length <= 2147483647 /\ x.media.length <= 2147483647) (hlt : ∀ t ∈ x.times, t.reps.length <= 2147483647 /\ ∀ r ∈ t.reps, r.offs.length <= 2147483647)
 (hlm : ∀ y ∈ x.media, y.protos.length <= 2147483647 /\ y.fmts.length <= 2147483647 /\ y.bws.length <= 2147483647 /\ y.atts.length <= 2147483647) :
 Calls prog 49 #[.pointer (some ⟨D, 0, none⟩)] w fun e w' => ∃ v, e = .returned v /\ qAq (fun W => qIx W x v) w' (fun k => w.heap.size <= k) /\ Nw w w' := by
 obtain ⟨r0, hr0⟩ : ∃ r, r = w.heap.size := ⟨_, rfl⟩
 obtain ⟨o, ho⟩ : ∃ r, r = w.heap.size + 1 := ⟨_, rfl⟩
 obtain ⟨wa, hwa⟩ : ∃ wa, wa = w.alloc (.cells #[.int .i64 0, .string ⟨#[]⟩, .int .u64 0, .int .u64 0, .string ⟨#[]⟩, .string ⟨#[]⟩, .string ⟨#[]⟩, .string ⟨#[]⟩, .slice none 0 0, .slice none 0 0, .slice none 0 0, .slice none 0 0, .slice none 0 0, .slice none 0 0, .slice none 0 0, .slice none 0 0, .slice none 0 0, .slice none 0 0, .slice none 0 0] 33) := ⟨_, rfl⟩
 have qa : Nw w wa := by rw [hwa]; exact (Nw.refl w).alloc _
 have hRa : Blk wa r0 [.int .i64 0, .string ⟨#[]⟩, .int .u64 0, .int .u64 0, .string ⟨#[]⟩, .string ⟨#[]⟩, .string ⟨#[]⟩, .string ⟨#[]⟩, .slice none 0 0, .slice none 0 0, .slice none 0 0, .slice none 0 0, .slice none 0 0, .slice none 0 0, .slice none 0 0, .slice none 0 0, .slice none 0 0, .slice none 0 0, .slice none 0 0] 33 := by rw [hwa, hr0]; exact Blk.made w _ 33
 have hoa : o = wa.heap.size := by rw [ho, hwa]; simp
 obtain ⟨w0, hw0⟩ : ∃ w0, w0 = wa.alloc (.cells #[.string x.org.user, .int .u64 x.org.id, .int .u64 x.org.ver, .string x.org.net, .string x.org.addr, .string x.org.adr] 101) := ⟨_, rfl⟩
 have q0 : Nw w w0 := by rw [hw0]; exact qa.alloc _
 have hR0 : Blk w0 r0 [.int .i64 0, .string ⟨#[]⟩, .int .u64 0, .int .u64 0, .string ⟨#[]⟩, .string ⟨#[]⟩, .string ⟨#[]⟩, .string ⟨#[]⟩, .slice none 0 0, .slice none 0 0, .slice none 0 0, .slice none 0 0, .slice none 0 0, .slice none 0 0, .slice none 0 0, .slice none 0 0, .slice none 0 0, .slice none 0 0, .slice none 0 0] 33 := by rw [hw0]; exact Blk.alloc hRa _
 have hO0 : Blk w0 o [.string x.org.user, .int .u64 x.org.id, .int .u64 x.org.ver, .string x.org.net, .string x.org.addr, .string x.org.adr] 101 := by rw [hw0, hoa]; exact Blk.made wa _ 101
 have hD0 := hD.nw q0
 have HS0 : Hid (∀ w', Nw w0 w' -> (w'.cell? ⟨D, 0, none⟩ = some (.int .i64 x.ver) /\ w'.cell? ⟨D, 7, none⟩ = some (.string x.name) /\ w'.cell? ⟨D, 8, none⟩ = some (vi) /\ w'.cell? ⟨D, 9, none⟩ = some (vu) /\ w'.cell? ⟨D, 10, none⟩ = some (ve) /\ w'.cell? ⟨D, 11, none⟩ = some (vp) /\ w'.cell? ⟨D, 12, none⟩ = some (vc) /\ w'.cell? ⟨D, 13, none⟩ = some (vb) /\ w'.cell? ⟨D, 16, none⟩ = some (vk) /\ w'.cell? ⟨D, 17, none⟩ = some (va) /\ w'.cell? ⟨o, 0, none⟩ = some (.string x.org.user) /\ w'.cell? ⟨o, 1, none⟩ = some (.int .u64 x.org.id) /\ w'.cell? ⟨o, 2, none⟩ = some (.int .u64 x.org.ver) /\ w'.cell? ⟨o, 3, none⟩ = some (.string x.org.net) /\ w'.cell? ⟨o, 4, none⟩ = some (.string x.org.addr) /\ w'.cell? ⟨o, 5, none⟩ = some (.string x.org.adr))) := hid (fun w' hn => ⟨(hD0.nw hn).cell 0 rfl, (hD0.nw hn).cell 7 rfl, (hD0.nw hn).cell 8 rfl, (hD0.nw hn).cell 9 rfl, (hD0.nw hn).cell 10 rfl, (hD0.nw hn).cell 11 rfl, (hD0.nw hn).cell 12 rfl, (hD0.nw hn).cell 13 rfl, (hD0.nw hn).cell 16 rfl, (hD0.nw hn).cell 17 rfl, (hO0.nw hn).cell 0 rfl, (hO0.nw hn).cell 1 rfl, (hO0.nw hn).cell 2 rfl, (hO0.nw hn).cell 3 rfl, (hO0.nw hn).cell 4 rfl, (hO0.nw hn).cell 5 rfl⟩)
 have d1 := (hD.nw qa).cell 1 rfl
 have d2 := (hD.nw qa).cell 2 rfl
 have d3 := (hD.nw qa).cell 3 rfl
 have d4 := (hD.nw qa).cell 4 rfl
 have d5 := (hD.nw qa).cell 5 rfl
 have d6 := (hD.nw qa).cell 6 rfl
 go_enter func49, ntmps49
 go_upto_region 1 with fail
 rw [<- hwa, <- hr0]
 clear hwa ho
 go_upto_region 2 with fail
 rw [<- hw0, <- hoa]
 have HR := hid hr0
 have HO := hid hoa
 clear hw0 hr0 hoa d1 d2 d3 d4 d5 d6
 go_cut [4] from 15 (fun v4 wc => ∃ g4 u0 u1 u2 u3 u4 u5 u6 u7, v4 = .pointer (some ⟨g4, 0, none⟩) /\ w0.heap.size <= g4 /\ Blk wc g4 [.int .i64 x.ver, .string x.org.user, .int .u64 x.org.id, .int .u64 x.org.ver, .string x.org.net, .string x.org.addr, .string x.org.adr, .string x.name, u0, u1, u2, u3, u4, u5, .slice none 0 0, .slice none 0 0, u6, u7, .slice none 0 0] 33 /\ Nw w0 wc /\ qAq (fun W => qAd.Sl W x.info u0) wc (fun k => w0.heap.size <= k /\ ¬ k = g4) /\ qAq (fun W => qAd.Sl W x.uri u1) wc (fun k => w0.heap.size <= k /\ ¬ k = g4) /\ qAq (fun W => qAd.Sl W x.email u2) wc (fun k => w0.heap.size <= k /\ ¬ k = g4) /\ qAq (fun W => qAd.Sl W x.phone u3) wc (fun k => w0.heap.size <= k /\ ¬ k = g4) /\ qAq (fun W => qC0.Sl W x.conn u4) wc (fun k => w0.heap.size <= k /\ ¬ k = g4) /\ qAq (fun W => qBx.Sl W x.bws u5) wc (fun k => w0.heap.size <= k /\ ¬ k = g4) /\ qAq (fun W => qAd.Sl W x.key u6) wc (fun k => w0.heap.size <= k /\ ¬ k = g4) /\ qAq (fun W => qBy.Sl W x.atts u7) wc (fun k => w0.heap.size <= k /\ ¬ k = g4))
 case first =>
  go_region_held3 (fun w' => w'.cell? ⟨D, 0, none⟩ = some (.int .i64 x.ver) /\ w'.cell? ⟨D, 7, none⟩ = some (.string x.name) /\ w'.cell? ⟨D, 8, none⟩ = some (vi) /\ w'.cell? ⟨D, 9, none⟩ = some (vu) /\ w'.cell? ⟨D, 10, none⟩ = some (ve) /\ w'.cell? ⟨D, 11, none⟩ = some (vp) /\ w'.cell? ⟨D, 12, none⟩ = some (vc) /\ w'.cell? ⟨D, 13, none⟩ = some (vb) /\ w'.cell? ⟨D, 16, none⟩ = some (vk) /\ w'.cell? ⟨D, 17, none⟩ = some (va) /\ w'.cell? ⟨o, 0, none⟩ = some (.string x.org.user) /\ w'.cell? ⟨o, 1, none⟩ = some (.int .u64 x.org.id) /\ w'.cell? ⟨o, 2, none⟩ = some (.int .u64 x.org.ver) /\ w'.cell? ⟨o, 3, none⟩ = some (.string x.org.net) /\ w'.cell? ⟨o, 4, none⟩ = some (.string x.org.addr) /\ w'.cell? ⟨o, 5, none⟩ = some (.string x.org.adr)) (((with_reducible refine HS0.out _ ?_); (repeat (first | (with_reducible assumption) | (with_reducible exact Nw.refl _) | (with_reducible refine Nw.drew ?_) | (with_reducible refine Nw.alloc ?_ _) | (with_reducible refine Nw.setRow ?_ ?_ _) | exact Nat.le_refl _ | exact sz0 | exact sz1 | exact sz2 | exact sz3 | exact sz4 | exact sz5 | exact sz6 | exact sz7)); done)) (first
   | (go_at_call 67; (with_reducible refine (qIm x.info vi _ ?_).mono ?_); (focus refine Ty.Pt_loc (Nw.block (w := w) (Nw.trans q0 ?_)) m.info; (apply_rules [Nw.refl, Nw.drew, Nw.drewN, Nw.alloc]); done); rintro e z0 ⟨t0, rfl, hs0, hn0⟩; have hp0 : Nw w0 z0 := (by refine Nw.trans ?_ hn0; (apply_rules [Nw.refl, Nw.drew, Nw.drewN, Nw.alloc]); done); have sz0 := hp0.size; have hr0 : Nw w0 z0 := (by refine Nw.trans ?_ hn0; (apply_rules [Nw.refl, Nw.drew, Nw.drewN, Nw.alloc]); done); have szc0 := hn0.size; (try simp only [World.alloc, World.drew, Array.size_push] at szc0); obtain ⟨A0, n0, rfl⟩ := Ty.Sl_form hs0.now; (try have hB := Blk.nw (Blk.made _ [.int .i64 0, .string ⟨#[]⟩, .int .u64 0, .int .u64 0, .string ⟨#[]⟩, .string ⟨#[]⟩, .string ⟨#[]⟩, .string ⟨#[]⟩, .slice none 0 0, .slice none 0 0, .slice none 0 0, .slice none 0 0, .slice none 0 0, .slice none 0 0, .slice none 0 0, .slice none 0 0, .slice none 0 0, .slice none 0 0, .slice none 0 0] 33) hn0); (try have hB := Blk.nw (Blk.drew (Blk.made _ [.int .i64 0, .string ⟨#[]⟩, .int .u64 0, .int .u64 0, .string ⟨#[]⟩, .string ⟨#[]⟩, .string ⟨#[]⟩, .string ⟨#[]⟩, .slice none 0 0, .slice none 0 0, .slice none 0 0, .slice none 0 0, .slice none 0 0, .slice none 0 0, .slice none 0 0, .slice none 0 0, .slice none 0 0, .slice none 0 0, .slice none 0 0] 33)) hn0); (try have hB := Blk.nw hB hn0))
   | (go_at_call 68; (with_reducible refine (imp_urls x.uri vu _ ?_).mono ?_); (focus refine Ty.Pt_loc (Nw.block (w := w) (Nw.trans q0 ?_)) m.uri; (apply_rules [Nw.refl, Nw.drew, Nw.drewN, Nw.alloc]); done); rintro e z1 ⟨t1, rfl, hs1, hn1⟩; have hp1 : Nw w0 z1 := (by refine Nw.trans ?_ hn1; (apply_rules [Nw.refl, Nw.drew, Nw.drewN, Nw.alloc]); done); have sz1 := hp1.size; have hr1 : Nw z0 z1 := (by refine Nw.trans ?_ hn1; (apply_rules [Nw.refl, Nw.drew, Nw.drewN, Nw.alloc]); done); have szc1 := hn1.size; (try simp only [World.alloc, World.drew, Array.size_push] at szc1); obtain ⟨A1, n1, rfl⟩ := Ty.Sl_form hs1.now; (try have hB := Blk.nw (Blk.made _ [.int .i64 0, .string ⟨#[]⟩, .int .u64 0, .int .u64 0, .string ⟨#[]⟩, .string ⟨#[]⟩, .string ⟨#[]⟩, .string ⟨#[]⟩, .slice none 0 0, .slice none 0 0, .slice none 0 0, .slice none 0 0, .slice none 0 0, .slice none 0 0, .slice none 0 0, .slice none 0 0, .slice none 0 0, .slice none 0 0, .slice none 0 0] 33) hn1); (try have hB := Blk.nw (Blk.drew (Blk.made _ [.int .i64 0, .string ⟨#[]⟩, .int .u64 0, .int .u64 0, .string ⟨#[]⟩, .string ⟨#[]⟩, .string ⟨#[]⟩, .string ⟨#[]⟩, .slice none 0 0, .slice none 0 0, .slice none 0 0, .slice none 0 0, .slice none 0 0, .slice none 0 0, .slice none 0 0, .slice none 0 0, .slice none 0 0, .slice none 0 0, .slice none 0 0] 33)) hn1); (try have hB := Blk.nw hB hn1))
   | (go_at_call 69; (with_reducible refine (qL4 x.email ve _ ?_).mono ?_); (focus refine Ty.Pt_loc (Nw.block (w := w) (Nw.trans q0 ?_)) m.email; (apply_rules [Nw.refl, Nw.drew, Nw.drewN, Nw.alloc]); done); rintro e z2 ⟨t2, rfl, hs2, hn2⟩; have hp2 : Nw w0 z2 := (by refine Nw.trans ?_ hn2; (apply_rules [Nw.refl, Nw.drew, Nw.drewN, Nw.alloc]); done); have sz2 := hp2.size; have hr2 : Nw z1 z2 := (by refine Nw.trans ?_ hn2; (apply_rules [Nw.refl, Nw.drew, Nw.drewN, Nw.alloc]); done); have szc2 := hn2.size; (try simp only [World.alloc, World.drew, Array.size_push] at szc2); obtain ⟨A2, n2, rfl⟩ := Ty.Sl_form hs2.now; (try have hB := Blk.nw (Blk.made _ [.int .i64 0, .string ⟨#[]⟩, .int .u64 0, .int .u64 0, .string ⟨#[]⟩, .string ⟨#[]⟩, .string ⟨#[]⟩, .string ⟨#[]⟩, .slice none 0 0, .slice none 0 0, .slice none 0 0, .slice none 0 0, .slice none 0 0, .slice none 0 0, .slice none 0 0, .slice none 0 0, .slice none 0 0, .slice none 0 0, .slice none 0 0] 33) hn2); (try have hB := Blk.nw (Blk.drew (Blk.made _ [.int .i64 0, .string ⟨#[]⟩, .int .u64 0, .int .u64 0, .string ⟨#[]⟩, .string ⟨#[]⟩, .string ⟨#[]⟩, .string ⟨#[]⟩, .slice none 0 0, .slice none 0 0, .slice none 0 0, .slice none 0 0, .slice none 0 0, .slice none 0 0, .slice none 0 0, .slice none 0 0, .slice none 0 0, .slice none 0 0, .slice none 0 0] 33)) hn2); (try have hB := Blk.nw hB hn2))
   | (go_at_call 70; (with_reducible refine (qL5 x.phone vp _ ?_).mono ?_); (focus refine Ty.Pt_loc (Nw.block (w := w) (Nw.trans q0 ?_)) m.phone; (apply_rules [Nw.refl, Nw.drew, Nw.drewN, Nw.alloc]); done); rintro e z3 ⟨t3, rfl, hs3, hn3⟩; have hp3 : Nw w0 z3 := (by refine Nw.trans ?_ hn3; (apply_rules [Nw.refl, Nw.drew, Nw.drewN, Nw.alloc]); done); have sz3 := hp3.size; have hr3 : Nw z2 z3 := (by refine Nw.trans ?_ hn3; (apply_rules [Nw.refl, Nw.drew, Nw.drewN, Nw.alloc]); done); have szc3 := hn3.size; (try simp only [World.alloc, World.drew, Array.size_push] at szc3); obtain ⟨A3, n3, rfl⟩ := Ty.Sl_form hs3.now; (try have hB := Blk.nw (Blk.made _ [.int .i64 0, .string ⟨#[]⟩, .int .u64 0, .int .u64 0, .string ⟨#[]⟩, .string ⟨#[]⟩, .string ⟨#[]⟩, .string ⟨#[]⟩, .slice none 0 0, .slice none 0 0, .slice none 0 0, .slice none 0 0, .slice none 0 0, .slice none 0 0, .slice none 0 0, .slice none 0 0, .slice none 0 0, .slice none 0 0, .slice none 0 0] 33) hn3); (try have hB := Blk.nw (Blk.drew (Blk.made _ [.int .i64 0, .string ⟨#[]⟩, .int .u64 0, .int .u64 0, .string ⟨#[]⟩, .string ⟨#[]⟩, .string ⟨#[]⟩, .string ⟨#[]⟩, .slice none 0 0, .slice none 0 0, .slice none 0 0, .slice none 0 0, .slice none 0 0, .slice none 0 0, .slice none 0 0, .slice none 0 0, .slice none 0 0, .slice none 0 0, .slice none 0 0] 33)) hn3); (try have hB := Blk.nw hB hn3))
   | (go_at_call 71; (with_reducible refine (qFu x.conn vc _ ?_).mono ?_); (focus refine Ty.Pt_loc (Nw.block (w := w) (Nw.trans q0 ?_)) m.conn; (apply_rules [Nw.refl, Nw.drew, Nw.drewN, Nw.alloc]); done); rintro e z4 ⟨t4, rfl, hs4, hn4⟩; have hp4 : Nw w0 z4 := (by refine Nw.trans ?_ hn4; (apply_rules [Nw.refl, Nw.drew, Nw.drewN, Nw.alloc]); done); have sz4 := hp4.size; have hr4 : Nw z3 z4 := (by refine Nw.trans ?_ hn4; (apply_rules [Nw.refl, Nw.drew, Nw.drewN, Nw.alloc]); done); have szc4 := hn4.size; (try simp only [World.alloc, World.drew, Array.size_push] at szc4); obtain ⟨A4, n4, rfl⟩ := Ty.Sl_form hs4.now; (try have hB := Blk.nw (Blk.made _ [.int .i64 0, .string ⟨#[]⟩, .int .u64 0, .int .u64 0, .string ⟨#[]⟩, .string ⟨#[]⟩, .string ⟨#[]⟩, .string ⟨#[]⟩, .slice none 0 0, .slice none 0 0, .slice none 0 0, .slice none 0 0, .slice none 0 0, .slice none 0 0, .slice none 0 0, .slice none 0 0, .slice none 0 0, .slice none 0 0, .slice none 0 0] 33) hn4); (try have hB := Blk.nw (Blk.drew (Blk.made _ [.int .i64 0, .string ⟨#[]⟩, .int .u64 0, .int .u64 0, .string ⟨#[]⟩, .string ⟨#[]⟩, .string ⟨#[]⟩, .string ⟨#[]⟩, .slice none 0 0, .slice none 0 0, .slice none 0 0, .slice none 0 0, .slice none 0 0, .slice none 0 0, .slice none 0 0, .slice none 0 0, .slice none 0 0, .slice none 0 0, .slice none 0 0] 33)) hn4); (try have hB := Blk.nw hB hn4))
   | (go_at_call 72; (with_reducible refine (qGe x.bws vb _ ?_ hl.1).mono ?_); (focus refine Ty.Sl_loc (Nw.block (w := w) (Nw.trans q0 ?_)) m.bws; (apply_rules [Nw.refl, Nw.drew, Nw.drewN, Nw.alloc]); done); rintro e z5 ⟨t5, rfl, hs5, hn5⟩; have hp5 : Nw w0 z5 := (by refine Nw.trans ?_ hn5; (apply_rules [Nw.refl, Nw.drew, Nw.drewN, Nw.alloc]); done); have sz5 := hp5.size; have hr5 : Nw z4 z5 := (by refine Nw.trans ?_ hn5; (apply_rules [Nw.refl, Nw.drew, Nw.drewN, Nw.alloc]); done); have szc5 := hn5.size; (try simp only [World.alloc, World.drew, Array.size_push] at szc5); obtain ⟨A5, n5, rfl⟩ := Ty.Sl_form hs5.now; (try have hB := Blk.nw (Blk.made _ [.int .i64 0, .string ⟨#[]⟩, .int .u64 0, .int .u64 0, .string ⟨#[]⟩, .string ⟨#[]⟩, .string ⟨#[]⟩, .string ⟨#[]⟩, .slice none 0 0, .slice none 0 0, .slice none 0 0, .slice none 0 0, .slice none 0 0, .slice none 0 0, .slice none 0 0, .slice none 0 0, .slice none 0 0, .slice none 0 0, .slice none 0 0] 33) hn5); (try have hB := Blk.nw (Blk.drew (Blk.made _ [.int .i64 0, .string ⟨#[]⟩, .int .u64 0, .int .u64 0, .string ⟨#[]⟩, .string ⟨#[]⟩, .string ⟨#[]⟩, .string ⟨#[]⟩, .slice none 0 0, .slice none 0 0, .slice none 0 0, .slice none 0 0, .slice none 0 0, .slice none 0 0, .slice none 0 0, .slice none 0 0, .slice none 0 0, .slice none 0 0, .slice none 0 0] 33)) hn5); (try have hB := Blk.nw hB hn5))
   | (go_at_call 73; (with_reducible refine (qIn x.key vk _ ?_).mono ?_); (focus refine Ty.Pt_loc (Nw.block (w := w) (Nw.trans q0 ?_)) m.key; (apply_rules [Nw.refl, Nw.drew, Nw.drewN, Nw.alloc]); done); rintro e z6 ⟨t6, rfl, hs6, hn6⟩; have hp6 : Nw w0 z6 := (by refine Nw.trans ?_ hn6; (apply_rules [Nw.refl, Nw.drew, Nw.drewN, Nw.alloc]); done); have sz6 := hp6.size; have hr6 : Nw z5 z6 := (by refine Nw.trans ?_ hn6; (apply_rules [Nw.refl, Nw.drew, Nw.drewN, Nw.alloc]); done); have szc6 := hn6.size; (try simp only [World.alloc, World.drew, Array.size_push] at szc6); obtain ⟨A6, n6, rfl⟩ := Ty.Sl_form hs6.now; (try have hB := Blk.nw (Blk.made _ [.int .i64 0, .string ⟨#[]⟩, .int .u64 0, .int .u64 0, .string ⟨#[]⟩, .string ⟨#[]⟩, .string ⟨#[]⟩, .string ⟨#[]⟩, .slice none 0 0, .slice none 0 0, .slice none 0 0, .slice none 0 0, .slice none 0 0, .slice none 0 0, .slice none 0 0, .slice none 0 0, .slice none 0 0, .slice none 0 0, .slice none 0 0] 33) hn6); (try have hB := Blk.nw (Blk.drew (Blk.made _ [.int .i64 0, .string ⟨#[]⟩, .int .u64 0, .int .u64 0, .string ⟨#[]⟩, .string ⟨#[]⟩, .string ⟨#[]⟩, .string ⟨#[]⟩, .slice none 0 0, .slice none 0 0, .slice none 0 0, .slice none 0 0, .slice none 0 0, .slice none 0 0, .slice none 0 0, .slice none 0 0, .slice none 0 0, .slice none 0 0, .slice none 0 0] 33)) hn6); (try have hB := Blk.nw hB hn6))
   | (go_at_call 74; (with_reducible refine (qGd x.atts va _ ?_ hl.2.1).mono ?_); (focus refine Ty.Sl_loc (Nw.block (w := w) (Nw.trans q0 ?_)) m.atts; (apply_rules [Nw.refl, Nw.drew, Nw.drewN, Nw.alloc]); done); rintro e z7 ⟨t7, rfl, hs7, hn7⟩; have hp7 : Nw w0 z7 := (by refine Nw.trans ?_ hn7; (apply_rules [Nw.refl, Nw.drew, Nw.drewN, Nw.alloc]); done); have sz7 := hp7.size; have hr7 : Nw z6 z7 := (by refine Nw.trans ?_ hn7; (apply_rules [Nw.refl, Nw.drew, Nw.drewN, Nw.alloc]); done); have szc7 := hn7.size; (try simp only [World.alloc, World.drew, Array.size_push] at szc7); obtain ⟨A7, n7, rfl⟩ := Ty.Sl_form hs7.now; (try have hB := Blk.nw (Blk.made _ [.int .i64 0, .string ⟨#[]⟩, .int .u64 0, .int .u64 0, .string ⟨#[]⟩, .string ⟨#[]⟩, .string ⟨#[]⟩, .string ⟨#[]⟩, .slice none 0 0, .slice none 0 0, .slice none 0 0, .slice none 0 0, .slice none 0 0, .slice none 0 0, .slice none 0 0, .slice none 0 0, .slice none 0 0, .slice none 0 0, .slice none 0 0] 33) hn7); (try have hB := Blk.nw (Blk.drew (Blk.made _ [.int .i64 0, .string ⟨#[]⟩, .int .u64 0, .int .u64 0, .string ⟨#[]⟩, .string ⟨#[]⟩, .string ⟨#[]⟩, .string ⟨#[]⟩, .slice none 0 0, .slice none 0 0, .slice none 0 0, .slice none 0 0, .slice none 0 0, .slice none 0 0, .slice none 0 0, .slice none 0 0, .slice none 0 0, .slice none 0 0, .slice none 0 0] 33)) hn7); (try have hB := Blk.nw hB hn7); (try have hrow := qEu (n := 19) hB rfl)))
  all_goals
   as_aux_lemma =>
    go_wp2
    have ch7 : Nw z7 z7 := Nw.refl _
    have ch6 : Nw z6 z7 := hr7.trans ch7
    have ch5 : Nw z5 z7 := hr6.trans ch6
    have ch4 : Nw z4 z7 := hr5.trans ch5
    have ch3 : Nw z3 z7 := hr4.trans ch4
    have ch2 : Nw z2 z7 := hr3.trans ch3
    have ch1 : Nw z1 z7 := hr2.trans ch2
    have ch0 : Nw z0 z7 := hr1.trans ch1
    go_meet
    case rel =>
     refine ⟨_, _, _, _, _, _, _, _, _, rfl, ?_, ?_, ?_, qCy hs0 ?_ ?_ ?_, qCy hs1 ?_ ?_ ?_, qCy hs2 ?_ ?_ ?_, qCy hs3 ?_ ?_ ?_, qCy hs4 ?_ ?_ ?_, qCy hs5 ?_ ?_ ?_, qCy hs6 ?_ ?_ ?_, qCy hs7 ?_ ?_ ?_⟩
     · first | exact Nat.le_refl _ | exact sz0 | exact sz1 | exact sz2 | exact sz3 | exact sz4 | exact sz5 | exact sz6 | exact sz7
     · first | (with_reducible exact qBp hB) | (with_reducible exact qBp (Blk.made _ _ 33)) | (with_reducible exact qBp (Blk.drew (Blk.made _ _ 33))) | exact qBp (Blk.made _ _ 33)
     · (repeat (first | (with_reducible assumption) | (with_reducible exact Nw.refl _) | (with_reducible refine Nw.drew ?_) | (with_reducible refine Nw.alloc ?_ _) | (with_reducible refine Nw.setRow ?_ ?_ _) | exact Nat.le_refl _ | exact sz0 | exact sz1 | exact sz2 | exact sz3 | exact sz4 | exact sz5 | exact sz6 | exact sz7))
     · (repeat (first | (with_reducible exact Nw.fr ch0 _) | (with_reducible refine Fr.setRowG ?_ _) | (with_reducible refine Fr.alloc ?_ _) | (with_reducible refine Fr.drew ?_)))
     · first | exact Nat.le_refl _ | exact sz0 | exact sz1 | exact sz2 | exact sz3 | exact sz4 | exact sz5 | exact sz6 | exact sz7 | (simp only [World.alloc, World.drew, Array.size_push]; omega)
     · first | exact .inl (by simp only [World.alloc, World.drew, Array.size_push]; omega) | exact .inr (by omega) | exact .inl (by omega)
     · (repeat (first | (with_reducible exact Nw.fr ch1 _) | (with_reducible refine Fr.setRowG ?_ _) | (with_reducible refine Fr.alloc ?_ _) | (with_reducible refine Fr.drew ?_)))
     · first | exact Nat.le_refl _ | exact sz0 | exact sz1 | exact sz2 | exact sz3 | exact sz4 | exact sz5 | exact sz6 | exact sz7 | (simp only [World.alloc, World.drew, Array.size_push]; omega)
     · first | exact .inl (by simp only [World.alloc, World.drew, Array.size_push]; omega) | exact .inr (by omega) | exact .inl (by omega)
     · (repeat (first | (with_reducible exact Nw.fr ch2 _) | (with_reducible refine Fr.setRowG ?_ _) | (with_reducible refine Fr.alloc ?_ _) | (with_reducible refine Fr.drew ?_)))
     · first | exact Nat.le_refl _ | exact sz0 | exact sz1 | exact sz2 | exact sz3 | exact sz4 | exact sz5 | exact sz6 | exact sz7 | (simp only [World.alloc, World.drew, Array.size_push]; omega)
     · first | exact .inl (by simp only [World.alloc, World.drew, Array.size_push]; omega) | exact .inr (by omega) | exact .inl (by omega)
     · (repeat (first | (with_reducible exact Nw.fr ch3 _) | (with_reducible refine Fr.setRowG ?_ _) | (with_reducible refine Fr.alloc ?_ _) | (with_reducible refine Fr.drew ?_)))
     · first | exact Nat.le_refl _ | exact sz0 | exact sz1 | exact sz2 | exact sz3 | exact sz4 | exact sz5 | exact sz6 | exact sz7 | (simp only [World.alloc, World.drew, Array.size_push]; omega)
     · first | exact .inl (by simp only [World.alloc, World.drew, Array.size_push]; omega) | exact .inr (by omega) | exact .inl (by omega)
     · (repeat (first | (with_reducible exact Nw.fr ch4 _) | (with_reducible refine Fr.setRowG ?_ _) | (with_reducible refine Fr.alloc ?_ _) | (with_reducible refine Fr.drew ?_)))
     · first | exact Nat.le_refl _ | exact sz0 | exact sz1 | exact sz2 | exact sz3 | exact sz4 | exact sz5 | exact sz6 | exact sz7 | (simp only [World.alloc, World.drew, Array.size_push]; omega)
     · first | exact .inl (by simp only [World.alloc, World.drew, Array.size_push]; omega) | exact .inr (by omega) | exact .inl (by omega)
     · (repeat (first | (with_reducible exact Nw.fr ch5 _) | (with_reducible refine Fr.setRowG ?_ _) | (with_reducible refine Fr.alloc ?_ _) | (with_reducible refine Fr.drew ?_)))
     · first | exact Nat.le_refl _ | exact sz0 | exact sz1 | exact sz2 | exact sz3 | exact sz4 | exact sz5 | exact sz6 | exact sz7 | (simp only [World.alloc, World.drew, Array.size_push]; omega)
     · first | exact .inl (by simp only [World.alloc, World.drew, Array.size_push]; omega) | exact .inr (by omega) | exact .inl (by omega)
     · (repeat (first | (with_reducible exact Nw.fr ch6 _) | (with_reducible refine Fr.setRowG ?_ _) | (with_reducible refine Fr.alloc ?_ _) | (with_reducible refine Fr.drew ?_)))
     · first | exact Nat.le_refl _ | exact sz0 | exact sz1 | exact sz2 | exact sz3 | exact sz4 | exact sz5 | exact sz6 | exact sz7 | (simp only [World.alloc, World.drew, Array.size_push]; omega)
     · first | exact .inl (by simp only [World.alloc, World.drew, Array.size_push]; omega) | exact .inr (by omega) | exact .inl (by omega)
     · (repeat (first | (with_reducible exact Nw.fr ch7 _) | (with_reducible refine Fr.setRowG ?_ _) | (with_reducible refine Fr.alloc ?_ _) | (with_reducible refine Fr.drew ?_)))
     · first | exact Nat.le_refl _ | exact sz0 | exact sz1 | exact sz2 | exact sz3 | exact sz4 | exact sz5 | exact sz6 | exact sz7 | (simp only [World.alloc, World.drew, Array.size_push]; omega)
     first | exact .inl (by simp only [World.alloc, World.drew, Array.size_push]; omega) | exact .inr (by omega) | exact .inl (by omega)
 as_aux_lemma =>
  obtain ⟨g4, a0, a1, a2, a3, a4, a5, a6, a7, rfl, hg4, hB4, hN, F0, F1, F2, F3, F4, F5, F6, F7⟩ := hcut
  obtain ⟨B0, m0, rfl⟩ := Ty.Sl_form F0.now
  obtain ⟨B1, m1, rfl⟩ := Ty.Sl_form F1.now
  obtain ⟨B2, m2, rfl⟩ := Ty.Sl_form F2.now
  obtain ⟨B3, m3, rfl⟩ := Ty.Sl_form F3.now
  obtain ⟨B4, m4, rfl⟩ := Ty.Sl_form F4.now
  obtain ⟨B5, m5, rfl⟩ := Ty.Sl_form F5.now
  obtain ⟨B6, m6, rfl⟩ := Ty.Sl_form F6.now
  obtain ⟨B7, m7, rfl⟩ := Ty.Sl_form F7.now
  have hW : Nw w wc := q0.trans hN
  obtain ⟨At, ct, rfl⟩ := Ty.Sl_form m.times
  obtain ⟨Az, cz, rfl⟩ := Ty.Sl_form m.zones
  obtain ⟨Am, cm, rfl⟩ := Ty.Sl_form m.media
  have hDc := hD.nw hW
  have d14 := hDc.cell 14 rfl
  have hw0 : w.heap.size <= w0.heap.size := q0.size
  have hDg : ¬ D = g4 := fun e => by have := hD.lt; omega
  have hg4c := hB4.lt
  have HM := hid m
  have HLT := hid hlt
  have HLM := hid hlm
  have hl3 := hl.2.2
  clear hD0 hO0 HS0 m hlt hlm hl
  go_wp2
  go_loopg [85] x.times.length (fun n i wr => ∃ (k : Nat) (tv : Value), k <= x.times.length /\ n = x.times.length - k /\ i = .int .i64 k /\ Blk wr g4 [.int .i64 x.ver, .string x.org.user, .int .u64 x.org.id, .int .u64 x.org.ver, .string x.org.net, .string x.org.addr, .string x.org.adr, .string x.name, (.slice B0 x.info.length m0), (.slice B1 x.uri.length m1), (.slice B2 x.email.length m2), (.slice B3 x.phone.length m3), (.slice B4 x.conn.length m4), (.slice B5 x.bws.length m5), tv, .slice none 0 0, (.slice B6 x.key.length m6), (.slice B7 x.atts.length m7), .slice none 0 0] 33 /\ qAo qCc wr wc.heap.size 71 tv (x.times.take k) (fun k => wc.heap.size <= k) /\ Fr (fun k => k = g4) wc wr)
  case atStart => exact ⟨0, .slice none 0 0, Nat.zero_le _, rfl, rfl, hB4, qAo.nil _ _ _ _ _, Fr.refl _ _⟩
  obtain ⟨k, tv, hk, hn, rfl, hBk, hTk, hFk⟩ := hrel
  have HN := hid hn
  clear hn
  have hOld : ∀ (p : Addr) (u : Value), w.cell? p = some u -> wr.cell? p = some u := fun p u hc => hFk.cell (S := fun k => k = g4) (fun e => by have h1 := World.block_lt_of_cell? _ _ hc; have e' : p.block = g4 := e; omega) (hW.cell hc)
  have HOLD := hid hOld
  clear hOld
  by_cases hlt : k < x.times.length
  · obtain ⟨b, o', rfl, ha⟩ := Ty.Sl_at HM.out.times k hlt
    obtain ⟨cs, ⟨v1, rfl, ht0, ht1, h1⟩, hx⟩ := ha k _ (List.getElem?_eq_getElem hlt)
    obtain ⟨Ar, cr, rfl⟩ := Ty.Sl_form h1
    have c0 := HOLD.out _ _ (hx 0 _ rfl)
    have c1 := HOLD.out _ _ (hx 1 _ rfl)
    have c2 := HOLD.out _ _ (hx 2 _ rfl)
    simp only [qCc, Nat.add_zero] at c0 c1 c2
    have HT := hid (qAt hlt)
    have hlt2 := HLT.out _ (List.getElem_mem hlt)
    clear hx ha
    obtain ⟨t, hte⟩ : ∃ t, t = x.times[k] := ⟨_, rfl⟩
    rw [<- hte] at c0 c1 c2 ht0 ht1 h1 HT hlt2
    clear hte
    go_upto_region 7 with fail
    obtain ⟨wT, rfl⟩ : ∃ wT, wT = wr := ⟨_, rfl⟩
    obtain ⟨g7, hg7⟩ : ∃ g, g = wT.heap.size + 1 := ⟨_, rfl⟩
    obtain ⟨wB, hwB⟩ : ∃ wB, wB = (wT.alloc (.cells #[.int .u64 t.start, .int .u64 t.stop, .slice Ar t.reps.length cr] 177)).alloc (.cells #[.int .u64 t.start, .int .u64 t.stop, .slice none 0 0] 71) := ⟨_, rfl⟩
    have hqB : Nw wT wB := by rw [hwB]; exact ((Nw.refl wT).alloc _).alloc _
    have hG7 : Blk wB g7 [.int .u64 t.start, .int .u64 t.stop, .slice none 0 0] 71 := by rw [hwB, hg7]; exact Blk.made' (by simp) _ 71
    have hG6 : Blk wB wT.heap.size [.int .u64 t.start, .int .u64 t.stop, .slice Ar t.reps.length cr] 177 := by rw [hwB]; exact Blk.alloc (Blk.made wT _ 177) _
    have e2 := hG6.cell 2 rfl
    have hWT : Nw w wT := hW.frIn hFk (fun k e => by rw [e]; omega)
    have hWB : Nw w wB := hWT.trans hqB
    have hsT : wc.heap.size <= wT.heap.size := hFk.size
    have hwc : w.heap.size <= wc.heap.size := hW.size
    have hsB : wT.heap.size <= wB.heap.size := hqB.size
    rw [<- hwB, <- hg7]
    have HG7 := hid hg7
    have hg7w : wT.heap.size < g7 := by omega
    clear hwB hg7 c0 c1 c2
    go_wp2
    go_loopg [99] t.reps.length (fun n i wr => ∃ (j : Nat) (rv : Value), j <= t.reps.length /\ n = t.reps.length - j /\ i = .int .i64 j /\ Blk wr g7 [.int .u64 t.start, .int .u64 t.stop, rv] 71 /\ qAo qDc wr wB.heap.size 77 rv (t.reps.take j) (fun k => wB.heap.size <= k) /\ Fr (fun k => k = g7) wB wr)
    case atStart => exact ⟨0, .slice none 0 0, Nat.zero_le _, rfl, rfl, hG7, qAo.nil _ _ _ _ _, Fr.refl _ _⟩
    obtain ⟨j, rv, hj, hn', rfl, hBj, hRj, hFj⟩ := hrel
    have HN2 := hid hn'
    clear hn'
    by_cases hlt2' : j < t.reps.length
    · obtain ⟨b2, o2, rfl, ha2⟩ := Ty.Sl_at h1 j hlt2'
      obtain ⟨cs2, ⟨p2, rfl, hr0, hr1, hof⟩, hx2⟩ := ha2 j _ (List.getElem?_eq_getElem hlt2')
      obtain ⟨Ao, co, rfl⟩ := Ty.Sl_form hof
      have HOLD2 : ∀ (p : Addr) (u : Value), w.cell? p = some u -> wr.cell? p = some u := fun p u hc => hFj.cell (S := fun k => k = g7) (fun e => by have h1 := World.block_lt_of_cell? _ _ hc; have e' : p.block = g7 := e; omega) (hqB.cell (HOLD.out p u hc))
      have d0 := HOLD2 _ _ (hx2 0 _ rfl)
      have d1 := HOLD2 _ _ (hx2 1 _ rfl)
      have d2 := HOLD2 _ _ (hx2 2 _ rfl)
      simp only [qDc, Nat.add_zero] at d0 d1 d2
      have HT2 := hid (qAt hlt2')
      have hol := hlt2.2 _ (List.getElem_mem hlt2')
      have hjl : (t.reps.take j).length <= j := by simp; omega
      have hOw : tyI.Sl w t.reps[j].offs (.slice Ao t.reps[j].offs.length co) := hof
      clear hx2 ha2 HOLD2 hof
      obtain ⟨r, hre⟩ : ∃ r, r = t.reps[j] := ⟨_, rfl⟩
      rw [<- hre] at d0 d1 d2 hr0 hr1 HT2 hol hOw
      clear hre
      have hWr : Nw w wr := hWB.frIn hFj (fun k e => by rw [e]; omega)
      go_upto_region 10 with fail
      obtain ⟨wC, hwC⟩ : ∃ wC, wC = wr.alloc (.cells #[.int .i64 r.ivl, .int .i64 r.dur, .slice Ao r.offs.length co] 178) := ⟨_, rfl⟩
      obtain ⟨g9, hg9⟩ : ∃ g, g = wr.heap.size := ⟨_, rfl⟩
      have hqC : Nw wr wC := by rw [hwC]; exact (Nw.refl wr).alloc _
      have hG9 : Blk wC g9 [.int .i64 r.ivl, .int .i64 r.dur, .slice Ao r.offs.length co] 178 := by rw [hwC, hg9]; exact Blk.made wr _ 178
      have hBC := hBj.nw hqC
      have hWC : Nw w wC := hWr.trans hqC
      have hFC : Fr (fun k => k = g7) wB wC := hFj.trans (hqC.fr _)
      obtain ⟨rows, hrow, hrl, hrg⟩ := hRj
      have hrowC := hrow.nw hqC
      have hown : ∀ k, rv.ownBlock = some k -> wB.heap.size <= k /\ k < wr.heap.size := fun k hk => hrow.base k hk
      have hgB : g7 < wB.heap.size := hG7.lt
      have hneg : ¬ some g7 = rv.ownBlock := fun e => by have := (hown g7 e.symm).1; omega
      have hn9o : ¬ some g9 = rv.ownBlock := fun e => by have := (hown g9 e.symm).2; omega
      have hsC : wB.heap.size <= wC.heap.size := hFC.size
      have hrls : rows.length <= 2147483647 := by rw [hrl]; omega
      have hsrC : wr.heap.size <= wC.heap.size := hqC.size
      rw [<- hwC, <- hg9]
      have HG9 := hid hg9
      have HRG := hid hrg
      clear hwC hg9 hrow hrg d0 d1 d2
      refine qAv 13 (fun w' => w'.cell? ⟨g9, 0, none⟩ = some (.int .i64 r.ivl) /\ w'.cell? ⟨g9, 1, none⟩ = some (.int .i64 r.dur) /\ w'.cell? ⟨g9, 2, none⟩ = some (.slice Ao r.offs.length co) /\ w'.cell? ⟨g7, 2, none⟩ = some rv) (by kernel_rfl) (⟨hG9.cell 0 rfl, hG9.cell 1 rfl, hG9.cell 2 rfl, hBC.cell 2 rfl⟩) (fun hHeld => ?_)
      refine' tkA 0 [13] (by assumption) ?_
      try simp only [sP]
      refine' tkA 1 [13] (by assumption) ?_
      try simp only [sP]
      refine' tkA 2 [13] (by assumption) ?_
      try simp only [sP]
      refine' tkA 3 [13] (by assumption) ?_
      try simp only [sP]
      refine' tkA 4 [13] (by assumption) ?_
      try simp only [sP]
      refine' tkA 5 [13] (by assumption) ?_
      try simp only [sP]
      refine' tkA 6 [13] (by assumption) ?_
      try simp only [sP]
      refine' tkA 7 [13] (by assumption) ?_
      try simp only [sP]
      refine' qB9 8 (by kernel_rfl) rfl (by decide) (fun K hK => ?_)
      (go_simp; go_at_call 75; (with_reducible refine (qJi r.offs _ _ (Ty.Sl_loc (Nw.block (w := w) (Nw.trans hWC ((Nw.refl wC).drew))) hOw) hol).mono ?_); rintro e w5 ⟨v5, rfl, hs5, hn5⟩; have hp5 : Nw wC w5 := Nw.trans ((Nw.refl wC).drew) hn5; obtain ⟨A5, n5, rfl⟩ := Ty.Sl_form hs5.now; have hsz5 := hp5.size)
      refine hK.out _ _ ?_ (fun hHeld => ?_)
      · exact ⟨(hG9.nw hp5).cell 0 rfl, (hG9.nw hp5).cell 1 rfl, (hG9.nw hp5).cell 2 rfl, (hBC.nw hp5).cell 2 rfl⟩
      clear hK K
      (try simp only [sP])
      refine' qB9 9 (by kernel_rfl) rfl (by decide) (fun K hK => ?_)
      go_simp
      refine hK.out _ _ ?_ (fun hHeld => ?_)
      · exact ⟨(hG9.nw hp5).cell 0 rfl, (hG9.nw hp5).cell 1 rfl, (hG9.nw hp5).cell 2 rfl, (hBC.nw hp5).cell 2 rfl⟩
      clear hK K
      (try simp only [sP])
      refine' qB9 10 (by kernel_rfl) rfl (by decide) (fun K hK => ?_)
      go_simp
      refine hK.out _ _ ?_ (fun hHeld => ?_)
      · exact ⟨(hG9.nw (hp5.alloc _)).cell 0 rfl, (hG9.nw (hp5.alloc _)).cell 1 rfl, (hG9.nw (hp5.alloc _)).cell 2 rfl, (hBC.nw (hp5.alloc _)).cell 2 rfl⟩
      clear hK K
      (try simp only [sP])
      refine' qB9 11 (by kernel_rfl) rfl (by decide) (fun K hK => ?_)
      ((refine qA3 rfl ?_; (with_reducible refine qAn wB.heap.size (.tmp 104) (.tmp 113) 69 77 3 (.agg #[.int .i64 0, .int .i64 0, .slice none 0 0]) 40 ?_ underlying69 infp77 ?_ ?_ rv rows [.int .i64 r.ivl, .int .i64 r.dur, .slice A5 r.offs.length n5] ?_ w5.heap.size ?_ (repp r.ivl r.dur A5 r.offs.length n5) ?_ ?_ ?_ ?_ ?_ ?_); (focus rfl); (focus rfl); (focus decide); (focus rfl); (focus rfl); (focus (exact fun j u hu => Blk.cell (Blk.made w5 [.int .i64 r.ivl, .int .i64 r.dur, .slice A5 r.offs.length n5] 77) j hu)); (focus (exact (hrowC.nw hp5).alloc _)); (focus (simp; omega)); (focus omega); (focus omega); intro v6 w6 hr6 hf6 ho6); obtain ⟨Av, cv, rfl, _⟩ := hr6.form; simp only [List.length_append, List.length_cons, List.length_nil, Nat.zero_add] at hr6 ho6; have hB6 := ((hBC.nw hp5).alloc _).fr hf6 hneg; have hG6b := ((hG9.nw hp5).alloc _).fr hf6 hn9o; have k6 := hB6.cell 2 rfl; have z6 := hB6.fz 2)
      refine hK.out _ _ ?_ (fun hHeld => ?_)
      · exact ⟨hG6b.cell 0 rfl, hG6b.cell 1 rfl, hG6b.cell 2 rfl, hB6.cell 2 rfl⟩
      clear hK K
      (try simp only [sP])
      refine' tkA 12 [13] (by assumption) ?_
      try simp only [sP]
      refine' qBr (by kernel_rfl) rfl (by kernel_rfl) (fun K hK => ?_)
      go_simp
      refine hK.out _ _ ?_
      clear hK K
      have hnA : Nw wr (w5.alloc (.cells #[.int .i64 r.ivl, .int .i64 r.dur, .slice A5 r.offs.length n5] 77)) := (hqC.trans hp5).alloc _
      have hs5W := (hs5.nw ((Nw.refl w5).alloc (.cells #[.int .i64 r.ivl, .int .i64 r.dur, .slice A5 r.offs.length n5] 77))).mono (ok' := fun k => wC.heap.size <= k) (fun k _ e => e.1)
      have hrt := qAo.snoc (T := qDc) (xs := t.reps.take j) (y := r) (v := rv) (ok := fun k => wB.heap.size <= k) hr6 hrl (fun i y r' hy hr' => ((HRG.out i y r' hy hr').nw hnA).mono (fun k _ e => e.1))
       (fun W hWW => ⟨_, rfl, hr0, hr1, hs5W W (fun k hk hlt => hWW k ⟨Nat.le_trans hsC hk, fun e => by have := (hown k e.symm).2; omega⟩ hlt)⟩) hf6 ho6
      have hrl3 : rows.length = j := by rw [hrl]; simp; omega
      rw [hrl3] at hrt
      go_wp2
      go_roundg (t.reps.length - (j + 1))
      case measure => rw [HN2.out]; omega
      exact ⟨j + 1, .slice Av (j + 1) cv, by omega, rfl, by go_num, Blk.setP1 hB6 2 _ _ rfl, by
       rw [HT2.out]
       exact hrt.fr (Fr.self (p := ⟨g7, 2, none⟩) _) (fun k hk e => by have := (qAo.base hrt k hk).1; have e' : k = g7 := e; omega) (fun k hk hok e => by have e' : k = g7 := e; omega),
       Fr.setCell (S := fun k => k = g7) (p := ⟨g7, 2, none⟩) (((hFC.trans (hp5.fr _)).alloc _).trans (hf6.mono (fun k _ e => .inr (hown k e.symm).1))) (.inl rfl) _⟩
    have hjn : j = t.reps.length := by omega
    subst hjn
    rw [List.take_of_length_le (Nat.le_refl _)] at hRj
    obtain ⟨Arv, crv, rfl, _⟩ := qAo.form hRj
    have hFTr : Fr (fun k => k = g7) wT wr := (hqB.fr _).trans (hFj.mono (fun k _ e => .inl e))
    have hTr := qAo.fr hTk hFTr (fun k hk e => by have := (qAo.base hTk k hk).2; omega) (fun k hk _ e => by omega)
    have hg4T := hBk.lt
    have hBr := hBk.fr hFTr (fun e => by omega)
    obtain ⟨rowsT, hrowT, hrlT, hrgT⟩ := hTr
    have c14 := hBr.cell 14 rfl
    have c70 := hBj.cell 0 rfl
    have c71 := hBj.cell 1 rfl
    have c72 := hBj.cell 2 rfl
    have hownT : ∀ k, tv.ownBlock = some k -> wc.heap.size <= k /\ k < wT.heap.size := fun k hk => ⟨(hrowT.base k hk).1, (qAo.base hTk k hk).2⟩
    have hneg4 : ¬ some g4 = tv.ownBlock := fun e => by have := (hownT g4 e.symm).1; omega
    have hrlT2 : rowsT.length <= 2147483647 := by rw [hrlT]; simp; omega
    have hsr := hFTr.size
    have HRGT := hid hrgT
    clear hrgT
    go_wp2_with ((refine qAc rfl fun K hK => ?_; (with_reducible refine qAn wc.heap.size (.tmp 118) (.tmp 120) 28 71 3 (.agg #[.int .u64 0, .int .u64 0, .slice none 0 0]) 40 ?_ underlying28 infp71 ?_ ?_ tv rowsT [.int .u64 t.start, .int .u64 t.stop, .slice Arv t.reps.length crv] ?_ wr.heap.size ?_ (timp t.start t.stop Arv t.reps.length crv) ?_ ?_ ?_ ?_ ?_ ?_); (focus rfl); (focus rfl); (focus decide); (focus rfl); (focus rfl); (focus (exact fun j u hu => Blk.cell (Blk.made wr [.int .u64 t.start, .int .u64 t.stop, .slice Arv t.reps.length crv] 71) j hu)); (focus (exact hrowT.alloc _)); (focus (simp; omega)); (focus omega); (focus omega); intro v8 w8 hr8 hf8 ho8; refine hK _ _ ?_); obtain ⟨Av, cv, rfl, _⟩ := hr8.form; simp only [List.length_append, List.length_cons, List.length_nil, Nat.zero_add] at hr8 ho8; have hB8 := (hBr.alloc _).fr hf8 hneg4; have k8 := hB8.cell 14 rfl; have z8 := hB8.fz 14)
    have hFt := qAo.foot hRj (by omega)
    have hTf : qAq (fun W => qCc.rel W t [.int .u64 t.start, .int .u64 t.stop, .slice Arv t.reps.length crv]) (wr.alloc (.cells #[.int .u64 t.start, .int .u64 t.stop, .slice Arv t.reps.length crv] 71)) (fun k => wc.heap.size <= k /\ ¬ some k = tv.ownBlock) :=
     qAq.mono ((hFt.nw ((Nw.refl wr).alloc _)).imp (fun W hh => ⟨_, rfl, ht0, ht1, hh⟩)) (fun k _ e => by
      have h9 : wB.heap.size <= k := by rcases e.1 with h | h <;> exact h
      exact ⟨by omega, fun e2 => by have := (hownT k e2.symm).2; omega⟩)
    have hrt := qAo.snoc (T := qCc) (xs := x.times.take k) (y := t) (v := tv) (ok := fun k => wc.heap.size <= k) hr8 hrlT (fun i y r' hy hr' => ((HRGT.out i y r' hy hr').nw ((Nw.refl wr).alloc _)).mono (fun k _ e => e.1)) hTf hf8 ho8
    have hrl3 : rowsT.length = k := by rw [hrlT]; simp; omega
    rw [hrl3] at hrt
    go_roundg (x.times.length - (k + 1))
    case measure => rw [HN.out]; omega
    exact ⟨k + 1, .slice Av (k + 1) cv, by omega, rfl, by go_num, (Blk.setP1 hB8 14 (.slice Av (k + 1) cv) [.int .i64 x.ver, .string x.org.user, .int .u64 x.org.id, .int .u64 x.org.ver, .string x.org.net, .string x.org.addr, .string x.org.adr, .string x.name, (.slice B0 x.info.length m0), (.slice B1 x.uri.length m1), (.slice B2 x.email.length m2), (.slice B3 x.phone.length m3), (.slice B4 x.conn.length m4), (.slice B5 x.bws.length m5), .slice Av (k + 1) cv, .slice none 0 0, (.slice B6 x.key.length m6), (.slice B7 x.atts.length m7), .slice none 0 0] rfl), by
     rw [HT.out]
     exact hrt.fr (Fr.self (p := ⟨g4, 14, none⟩) _) (fun j hj e => by have := (qAo.base hrt j hj).1; have e' : j = g4 := e; omega) (fun j hj hok e => by have e' : j = g4 := e; omega),
     Fr.setCell (S := fun k => k = g4) (p := ⟨g4, 14, none⟩) ((((hFk.trans (hFTr.mono (fun j _ e => .inr (by omega)))).alloc _).trans (hf8.mono (fun j _ e => .inr (hownT j e.symm).1)))) (.inl rfl) _⟩
  have hkn : k = x.times.length := by omega
  subst hkn
  rw [List.take_of_length_le (Nat.le_refl _)] at hTk
  have hwc : w.heap.size <= wc.heap.size := hW.size
  have hsT : wc.heap.size <= wr.heap.size := hFk.size
  have hTF : qAq (fun W => qCc.Sl W x.times tv) wr (fun k => wc.heap.size <= k) := (qAo.foot hTk (by omega)).mono (fun k _ e => by rcases e with h | h <;> exact h)
  obtain ⟨Atv, ctv, rfl, _⟩ := qAo.form hTk
  have d15 := HOLD.out ⟨D, 15, none⟩ _ (hD.cell 15 rfl)
  have HTF := hid hTF
  clear hTF hTk
  obtain ⟨wX, hwX⟩ : ∃ wX, wX = wr := ⟨_, rfl⟩
  have hX0 : Fr (fun k => k = g4) wX wr := by rw [hwX]; exact Fr.refl _ _
  have HX := hid hwX
  have hFX : Fr (fun k => k = g4) wc wX := by rw [hwX]; exact hFk
  have hXs : wc.heap.size <= wX.heap.size := hFX.size
  clear hwX hFk
  go_wp2
  go_loopg [129] x.zones.length (fun n i wr => ∃ (k : Nat) (zv : Value), k <= x.zones.length /\ n = x.zones.length - k /\ i = .int .i64 k /\ Blk wr g4 [.int .i64 x.ver, .string x.org.user, .int .u64 x.org.id, .int .u64 x.org.ver, .string x.org.net, .string x.org.addr, .string x.org.adr, .string x.name, (.slice B0 x.info.length m0), (.slice B1 x.uri.length m1), (.slice B2 x.email.length m2), (.slice B3 x.phone.length m3), (.slice B4 x.conn.length m4), (.slice B5 x.bws.length m5), .slice Atv x.times.length ctv, zv, (.slice B6 x.key.length m6), (.slice B7 x.atts.length m7), .slice none 0 0] 33 /\ qAo qDt wr wX.heap.size 80 zv (x.zones.take k) (fun _ => False) /\ Fr (fun k => k = g4) wX wr)
  case atStart => exact ⟨0, .slice none 0 0, Nat.zero_le _, rfl, rfl, hBk, qAo.nil _ _ _ _ _, hX0⟩
  obtain ⟨k, zv, hk, hn, rfl, hBk, hZk, hFk⟩ := hrel
  have HN1 := hid hn
  clear hn
  have hFc : Fr (fun k => k = g4) wc wr := hFX.trans (hFk.mono (fun k _ e => .inl e))
  have hOld : ∀ (p : Addr) (u : Value), w.cell? p = some u -> wr.cell? p = some u := fun p u hc => hFc.cell (S := fun k => k = g4) (fun e => by have h1 := World.block_lt_of_cell? _ _ hc; have e' : p.block = g4 := e; omega) (hW.cell hc)
  by_cases hlt : k < x.zones.length
  · obtain ⟨b, o', rfl, ha⟩ := Ty.Sl_at HM.out.zones k hlt
    obtain ⟨cs, ⟨rfl, hz0, hz1⟩, hx⟩ := ha k _ (List.getElem?_eq_getElem hlt)
    have c0 := hOld _ _ (hx 0 _ rfl)
    have c1 := hOld _ _ (hx 1 _ rfl)
    simp only [qDt, Ty.flat, Nat.add_zero] at c0 c1
    have HT := hid (qAt hlt)
    clear hx ha hOld
    obtain ⟨t, hte⟩ : ∃ t, t = x.zones[k] := ⟨_, rfl⟩
    rw [<- hte] at c0 c1 hz0 hz1 HT
    clear hte
    go_upto_region 17 with fail
    obtain ⟨wC, hwC⟩ : ∃ wC, wC = wr.alloc (.cells #[.int .u64 t.time, .int .i64 t.off] 181) := ⟨_, rfl⟩
    obtain ⟨g9, hg9⟩ : ∃ g, g = wr.heap.size := ⟨_, rfl⟩
    have hqC : Nw wr wC := by rw [hwC]; exact (Nw.refl wr).alloc _
    have hG9 : Blk wC g9 [.int .u64 t.time, .int .i64 t.off] 181 := by rw [hwC, hg9]; exact Blk.made wr _ 181
    have hBC := hBk.nw hqC
    have hFC : Fr (fun k => k = g4) wX wC := hFk.trans (hqC.fr _)
    obtain ⟨rows, hrow, hrl, hrg2⟩ := hZk
    have hrowC := hrow.nw hqC
    have hown : ∀ k, zv.ownBlock = some k -> wX.heap.size <= k /\ k < wC.heap.size := fun k hk => ⟨(hrowC.base k hk).1, (hrowC.base k hk).2⟩
    have hneg : ¬ some g4 = zv.ownBlock := fun e => by have := (hown g4 e.symm).1; omega
    have hsC : wX.heap.size <= wC.heap.size := hFC.size
    have e0 := hG9.cell 0 rfl
    have e1 := hG9.cell 1 rfl
    have k15 := hBC.cell 15 rfl
    have hrls : rows.length <= 2147483647 := by rw [hrl]; simp; omega
    rw [<- hwC, <- hg9]
    have HG9 := hid hg9
    have HRG := hid hrg2
    clear hwC hg9 hrow hrg2 c0 c1
    go_wp2_with ((refine qAc rfl fun K hK => ?_; (with_reducible refine qAn wX.heap.size (.tmp 134) (.tmp 140) 29 80 2 (.agg #[.int .u64 0, .int .i64 0]) 16 ?_ underlying29 inf80 ?_ ?_ zv rows [.int .u64 t.time, .int .i64 t.off] ?_ wC.heap.size ?_ (zon1 t.time t.off) ?_ ?_ ?_ ?_ ?_ ?_); (focus rfl); (focus rfl); (focus decide); (focus rfl); (focus rfl); (focus (exact fun j u hu => Blk.cell (Blk.made wC [.int .u64 t.time, .int .i64 t.off] 80) j hu)); (focus (exact hrowC.alloc _)); (focus (simp; omega)); (focus omega); (focus omega); intro v6 w6 hr6 hf6 ho6; refine hK _ _ ?_); obtain ⟨Av, cv, rfl, _⟩ := hr6.form; simp only [List.length_append, List.length_cons, List.length_nil, Nat.zero_add] at hr6 ho6; have hB6 := (hBC.alloc _).fr hf6 hneg; have k6 := hB6.cell 15 rfl; have z6 := hB6.fz 15)
    have hrt := qAo.snoc (T := qDt) (xs := x.zones.take k) (y := t) (v := zv) (ok := fun _ => False) hr6 hrl (fun i y r' hy hr' W _ => (HRG.out i y r' hy hr').now) (fun W _ => ⟨rfl, hz0, hz1⟩) hf6 ho6
    have hrl3 : rows.length = k := by rw [hrl]; simp; omega
    rw [hrl3] at hrt
    go_roundg (x.zones.length - (k + 1))
    case measure => rw [HN1.out]; omega
    exact ⟨k + 1, .slice Av (k + 1) cv, by omega, rfl, by go_num, Blk.setP1 hB6 15 _ _ rfl, by
     rw [HT.out]
     exact hrt.fr (Fr.self (p := ⟨g4, 15, none⟩) _) (fun j hj e => by have := (qAo.base hrt j hj).1; have e' : j = g4 := e; omega) (fun j hj hok e => hok.elim),
     Fr.setCell (S := fun k => k = g4) (p := ⟨g4, 15, none⟩) ((hFC.alloc _).trans (hf6.mono (fun k _ e => .inr (hown k e.symm).1))) (.inl rfl) _⟩
  have hkn : k = x.zones.length := by omega
  subst hkn
  rw [List.take_of_length_le (Nat.le_refl _)] at hZk
  have hZF : qAq (fun W => qDt.Sl W x.zones zv) wr (fun k => wc.heap.size <= k) := (qAo.foot hZk (by omega)).mono (fun k _ e => by rcases e with h | h; exact h.elim; omega)
  obtain ⟨Azv, czv, rfl, _⟩ := qAo.form hZk
  have d18 := hOld ⟨D, 18, none⟩ _ (hD.cell 18 rfl)
  have hTF2 : qAq (fun W => qCc.Sl W x.times (.slice Atv x.times.length ctv)) wr (fun k => wc.heap.size <= k) := by
   have h1 := HTF.out
   rw [<- HX.out] at h1
   exact (h1.fr hFk (fun k hk hok e => by omega)).mono (fun k _ e => e.1)
  have HTZ := hid (hTF2.and hZF)
  clear hTF2 hZF hZk HTF hOld
  obtain ⟨wY, hwY⟩ : ∃ wY, wY = wr := ⟨_, rfl⟩
  have hY0 : Fr (fun k => k = g4) wY wr := by rw [hwY]; exact Fr.refl _ _
  have HY := hid hwY
  have hFY : Fr (fun k => k = g4) wc wY := by rw [hwY]; exact hFc
  have hYs : wc.heap.size <= wY.heap.size := hFY.size
  clear hwY hFk hFc hX0 HX
  go_wp2
  go_loopg [149] x.media.length (fun n i wr => ∃ (k : Nat) (mv : Value), k <= x.media.length /\ n = x.media.length - k /\ i = .int .i64 k /\ Blk wr g4 [.int .i64 x.ver, .string x.org.user, .int .u64 x.org.id, .int .u64 x.org.ver, .string x.org.net, .string x.org.addr, .string x.org.adr, .string x.name, (.slice B0 x.info.length m0), (.slice B1 x.uri.length m1), (.slice B2 x.email.length m2), (.slice B3 x.phone.length m3), (.slice B4 x.conn.length m4), (.slice B5 x.bws.length m5), .slice Atv x.times.length ctv, .slice Azv x.zones.length czv, (.slice B6 x.key.length m6), (.slice B7 x.atts.length m7), mv] 33 /\ qAo qEj wr wY.heap.size 84 mv (x.media.take k) (fun k => wY.heap.size <= k) /\ Fr (fun k => k = g4) wY wr)
  case atStart => exact ⟨0, .slice none 0 0, Nat.zero_le _, rfl, rfl, hBk, qAo.nil _ _ _ _ _, hY0⟩
  obtain ⟨k, mv, hk, hn, rfl, hBk, hMk, hFk⟩ := hrel
  have HN1 := hid hn
  clear hn
  have hFc : Fr (fun k => k = g4) wc wr := hFY.trans (hFk.mono (fun k _ e => .inl e))
  have hWr : Nw w wr := hW.frIn hFc (fun k e => by rw [e]; omega)
  by_cases hlt : k < x.media.length
  · obtain ⟨b, o', rfl, ha⟩ := Ty.Sl_at HM.out.media k hlt
    obtain ⟨cs, ⟨b9, rfl, hat⟩, hx⟩ := ha k _ (List.getElem?_eq_getElem hlt)
    obtain ⟨cs2, ⟨p0, p1, p2, p3, p4, p5, p6, p7, rfl, pm⟩, hx2⟩ := hat 0 _ rfl
    have c0 := hWr.cell (hx 0 _ rfl)
    simp only [Ty.ptr, Nat.mul_one, Nat.add_zero] at c0
    have HCM := hid (fun (j : Nat) (u : Value) hu => (Nw.cell (Nw.trans hWr ((Nw.refl wr).drew)) (by simpa using hx2 j u hu) : wr.drew.cell? ⟨b9, j, none⟩ = some u))
    have HT := hid (qAt hlt)
    have hlk := HLM.out _ (List.getElem_mem hlt)
    have hjl : (x.media.take k).length <= k := by simp; omega
    clear hx ha hx2 hat
    obtain ⟨t, hte⟩ : ∃ t, t = x.media[k] := ⟨_, rfl⟩
    rw [<- hte] at HT hlk pm HCM
    have MT := hid pm
    clear hte pm
    obtain ⟨rows, hrow, hrl, hrg2⟩ := hMk
    have hown : ∀ k, mv.ownBlock = some k -> wY.heap.size <= k /\ k < wr.heap.size := fun k hk => hrow.base k hk
    have hneg : ¬ some g4 = mv.ownBlock := fun e => by have := (hown g4 e.symm).1; omega
    have hsr : wY.heap.size <= wr.heap.size := hFk.size
    have hrls : rows.length <= 2147483647 := by rw [hrl]; omega
    have HRG := hid hrg2
    clear hrg2
    go_upto_region 22 with fail
    refine qAv 7 (fun w' => w'.cell? ⟨g4, 18, none⟩ = some mv) (by kernel_rfl) (hBk.cell 18 rfl) (fun hHeld => ?_)
    refine' tkA 0 [7] (by assumption) ?_
    try simp only [sP]
    refine' tkA 1 [7] (by assumption) ?_
    try simp only [sP]
    refine' tkA 2 [7] (by assumption) ?_
    try simp only [sP]
    refine' qB9 3 (by kernel_rfl) rfl (by decide) (fun K hK => ?_)
    (go_simp; go_at_call 76; (with_reducible refine (qQo t b9 _ _ _ _ _ _ _ _ _ HCM.out (PMedAt.loc (Nw.block (w := w) (Nw.trans hWr ((Nw.refl wr).drew))) MT.out) hlk).mono ?_); rintro e z0 ⟨u0, u1, u2, u3, u4m, u5, u6, u7m, rfl, hsM, hnM⟩; have hp0 : Nw wr z0 := Nw.trans ((Nw.refl wr).drew) hnM; have mm := hsM.now; obtain ⟨C0, k0, rfl⟩ := Ty.Sl_form mm.ports; obtain ⟨C1, k1, rfl⟩ := Ty.Sl_form mm.protos; obtain ⟨C2, k2, rfl⟩ := Ty.Sl_form mm.fmts; obtain ⟨C3, k3, rfl⟩ := Ty.Sl_form mm.title; obtain ⟨C4, k4, rfl⟩ := Ty.Sl_form mm.conn; obtain ⟨C5, k5, rfl⟩ := Ty.Sl_form mm.bws; obtain ⟨C6, k6, rfl⟩ := Ty.Sl_form mm.key; obtain ⟨C7, k7, rfl⟩ := Ty.Sl_form mm.atts; clear mm; have hsz0 := hp0.size)
    refine hK.out _ _ ?_ (fun hHeld => ?_)
    · exact (hBk.nw hp0).cell 18 rfl
    clear hK K
    (try simp only [sP])
    refine' qB9 4 (by kernel_rfl) rfl (by decide) (fun K hK => ?_)
    (refine qA3 rfl ?_; (refine wp_one84 (.tmp 156) rfl _ _ _ _ _ _ _ _ _ _ _ _ _ _ _ _ _ _ _ _ _ _ _ _ _ _ rfl ?_))
    refine hK.out _ _ ?_ (fun hHeld => ?_)
    · exact (hBk.nw (hp0.alloc _)).cell 18 rfl
    clear hK K
    (try simp only [sP])
    refine' qB9 5 (by kernel_rfl) rfl (by decide) (fun K hK => ?_)
    ((refine qA3 rfl ?_; (with_reducible refine qAn wY.heap.size (.tmp 154) (.tmp 157) 31 84 10 (.agg #[.string ⟨#[]⟩, .int .i64 0, .slice none 0 0, .slice none 0 0, .slice none 0 0, .slice none 0 0, .slice none 0 0, .slice none 0 0, .slice none 0 0, .slice none 0 0]) 216 ?_ underlying31 inf84 ?_ ?_ mv rows [.string t.name, .int .i64 t.port, .slice C0 t.ports.length k0, .slice C1 t.protos.length k1, .slice C2 t.fmts.length k2, .slice C3 t.title.length k3, .slice C4 t.conn.length k4, .slice C5 t.bws.length k5, .slice C6 t.key.length k6, .slice C7 t.atts.length k7] ?_ z0.heap.size ?_ (med1 _ _ _ _ _ _ _ _ _ _ _ _ _ _ _ _ _ _ _ _ _ _ _ _ _ _) ?_ ?_ ?_ ?_ ?_ ?_); (focus rfl); (focus rfl); (focus decide); (focus rfl); (focus rfl); (focus (exact fun j u hu => Blk.cell (Blk.made z0 [.string t.name, .int .i64 t.port, .slice C0 t.ports.length k0, .slice C1 t.protos.length k1, .slice C2 t.fmts.length k2, .slice C3 t.title.length k3, .slice C4 t.conn.length k4, .slice C5 t.bws.length k5, .slice C6 t.key.length k6, .slice C7 t.atts.length k7] 84) j hu)); (focus (exact (hrow.nw hp0).alloc _)); (focus (simp; omega)); (focus omega); (focus omega); intro v6 w6 hr6 hf6 ho6); obtain ⟨Av, cv, rfl, _⟩ := hr6.form; simp only [List.length_append, List.length_cons, List.length_nil, Nat.zero_add] at hr6 ho6; have hB6 := ((hBk.nw hp0).alloc _).fr hf6 hneg; have kk6 := hB6.cell 18 rfl; have z6 := hB6.fz 18)
    refine hK.out _ _ ?_ (fun hHeld => ?_)
    · exact hB6.cell 18 rfl
    clear hK K
    (try simp only [sP])
    refine' tkA 6 [7] (by assumption) ?_
    try simp only [sP]
    refine' qBr (by kernel_rfl) rfl (by kernel_rfl) (fun K hK => ?_)
    go_simp
    refine hK.out _ _ ?_
    clear hK K
    have hFm : qAq (fun W => qEj.rel W t [.string t.name, .int .i64 t.port, .slice C0 t.ports.length k0, .slice C1 t.protos.length k1, .slice C2 t.fmts.length k2, .slice C3 t.title.length k3, .slice C4 t.conn.length k4, .slice C5 t.bws.length k5, .slice C6 t.key.length k6, .slice C7 t.atts.length k7]) (z0.alloc (.cells #[.string t.name, .int .i64 t.port, .slice C0 t.ports.length k0, .slice C1 t.protos.length k1, .slice C2 t.fmts.length k2, .slice C3 t.title.length k3, .slice C4 t.conn.length k4, .slice C5 t.bws.length k5, .slice C6 t.key.length k6, .slice C7 t.atts.length k7] 84)) (fun k => wY.heap.size <= k /\ ¬ some k = mv.ownBlock) :=
     qAq.mono ((hsM.nw ((Nw.refl z0).alloc (.cells #[.string t.name, .int .i64 t.port, .slice C0 t.ports.length k0, .slice C1 t.protos.length k1, .slice C2 t.fmts.length k2, .slice C3 t.title.length k3, .slice C4 t.conn.length k4, .slice C5 t.bws.length k5, .slice C6 t.key.length k6, .slice C7 t.atts.length k7] 84))).imp (fun W hh => ⟨_, _, _, _, _, _, _, _, rfl, hh⟩)) (fun k _ e => by
      have e1 : wr.heap.size <= k := e.1
      exact ⟨by omega, fun e2 => by have := (hown k e2.symm).2; omega⟩)
    have hrt := qAo.snoc (T := qEj) (xs := x.media.take k) (y := t) (v := mv) (ok := fun k => wY.heap.size <= k) hr6 hrl (fun i y r' hy hr' => ((HRG.out i y r' hy hr').nw (hp0.alloc _)).mono (fun k _ e => e.1)) hFm hf6 ho6
    have hrl3 : rows.length = k := by rw [hrl]; simp; omega
    rw [hrl3] at hrt
    go_wp2
    go_roundg (x.media.length - (k + 1))
    case measure => rw [HN1.out]; omega
    exact ⟨k + 1, .slice Av (k + 1) cv, by omega, rfl, by go_num, Blk.setP1 hB6 18 _ _ rfl, by
     rw [HT.out]
     exact hrt.fr (Fr.self (p := ⟨g4, 18, none⟩) _) (fun j hj e => by have := (qAo.base hrt j hj).1; have e' : j = g4 := e; omega) (fun j hj hok e => by have e' : j = g4 := e; omega),
     Fr.setCell (S := fun k => k = g4) (p := ⟨g4, 18, none⟩) (((hFk.trans (hp0.fr _)).alloc _).trans (hf6.mono (fun k _ e => .inr (hown k e.symm).1))) (.inl rfl) _⟩
  have hkn : k = x.media.length := by omega
  subst hkn
  rw [List.take_of_length_le (Nat.le_refl _)] at hMk
  have hMF : qAq (fun W => qEj.Sl W x.media mv) wr (fun k => wc.heap.size <= k) := (qAo.foot hMk (by omega)).mono (fun k _ e => by rcases e with h | h <;> omega)
  obtain ⟨Amv, cmv, rfl, _⟩ := qAo.form hMk
  have hTZ9 := HTZ.out
  rw [<- HY.out] at hTZ9
  have hTZr := hTZ9.fr hFk (fun k hk hok e => by omega)
  have hr0w : w.heap.size = r0 := HR.out.symm
  have hr0lt := hR0.lt
  have hsr : wc.heap.size <= wr.heap.size := hFc.size
  have hRr : Blk wr r0 [.int .i64 0, .string ⟨#[]⟩, .int .u64 0, .int .u64 0, .string ⟨#[]⟩, .string ⟨#[]⟩, .string ⟨#[]⟩, .string ⟨#[]⟩, .slice none 0 0, .slice none 0 0, .slice none 0 0, .slice none 0 0, .slice none 0 0, .slice none 0 0, .slice none 0 0, .slice none 0 0, .slice none 0 0, .slice none 0 0, .slice none 0 0] 33 := (hR0.nw hN).fr hFc (fun e => by omega)
  have hw0c : w0.heap.size <= wc.heap.size := hN.size
  have HR0 := hid hr0w
  clear hTZ9 hr0w
  go_upto_region 24 with fail
  rename_i K1 hK1
  apply wp_region_lit
  refine wpList_load_row rfl 33 (.tmp 4) rfl g4 rfl 33 _ (0, 0) _ hBk underlying33 rfl (by kernel_rfl) ?_
  refine wpList_store_row rfl 33 (.tmp 2) (.tmp 161) rfl r0 _ rfl rfl 33 _ hRr (by kernel_rfl) rfl (by first | kernel_rfl | simp [Value.oneCell']) ?_
  apply wpList_nil
  refine hK1 _ _ ?_
  obtain ⟨w9, hw9⟩ : ∃ w9, w9 = wr.setRow r0 ([.int .i64 x.ver, .string x.org.user, .int .u64 x.org.id, .int .u64 x.org.ver, .string x.org.net, .string x.org.addr, .string x.org.adr, .string x.name, (.slice B0 x.info.length m0), (.slice B1 x.uri.length m1), (.slice B2 x.email.length m2), (.slice B3 x.phone.length m3), (.slice B4 x.conn.length m4), (.slice B5 x.bws.length m5), .slice Atv x.times.length ctv, .slice Azv x.zones.length czv, (.slice B6 x.key.length m6), (.slice B7 x.atts.length m7), .slice Amv x.media.length cmv] : List Value).toArray := ⟨_, rfl⟩
  have hR9 : Blk w9 r0 [.int .i64 x.ver, .string x.org.user, .int .u64 x.org.id, .int .u64 x.org.ver, .string x.org.net, .string x.org.addr, .string x.org.adr, .string x.name, (.slice B0 x.info.length m0), (.slice B1 x.uri.length m1), (.slice B2 x.email.length m2), (.slice B3 x.phone.length m3), (.slice B4 x.conn.length m4), (.slice B5 x.bws.length m5), .slice Atv x.times.length ctv, .slice Azv x.zones.length czv, (.slice B6 x.key.length m6), (.slice B7 x.atts.length m7), .slice Amv x.media.length cmv] 33 := by rw [hw9]; exact qBp hRr
  have hF9 : Fr (fun k => k = r0) wr w9 := by rw [hw9]; exact qEv _ _ _
  rw [<- hw9]
  clear hw9
  have hFa : Fr (fun k => k = g4 ∨ k = r0) wc w9 := (hFc.mono (fun k _ e => .inl e)).trans (hF9.mono (fun k _ e => .inl (.inr e)))
  have hr0w := HR0.out
  have hmv : ∀ {Q : World -> Prop}, qAq Q wc (fun k => w0.heap.size <= k /\ ¬ k = g4) -> qAq Q w9 (fun k => w.heap.size <= k) := fun h => (h.fr hFa (fun k hk hok e => by rcases e with e | e <;> omega)).mono (fun k _ e => by have := e.1.1; omega)
  have hmr : ∀ {Q : World -> Prop}, qAq Q wr (fun k => wc.heap.size <= k) -> qAq Q w9 (fun k => w.heap.size <= k) := fun h => (h.fr hF9 (fun k hk hok e => by omega)).mono (fun k _ e => by have := e.1; omega)
  have hTZ := hmr (hTZr.mono (fun k _ e => e.1))
  have hMM := hmr hMF
  have hW9 : Nw w w9 := hWr.frIn hF9 (fun k e => by rw [e]; omega)
  have g0 := hmv F0
  have g1 := hmv F1
  have g2 := hmv F2
  have g3 := hmv F3
  have g4' := hmv F4
  have g5 := hmv F5
  have g6 := hmv F6
  have g7' := hmv F7
  have R9 : Hid (qAq (fun W => qIx W x (.agg #[.int .i64 x.ver, .string x.org.user, .int .u64 x.org.id, .int .u64 x.org.ver, .string x.org.net, .string x.org.addr, .string x.org.adr, .string x.name, (.slice B0 x.info.length m0), (.slice B1 x.uri.length m1), (.slice B2 x.email.length m2), (.slice B3 x.phone.length m3), (.slice B4 x.conn.length m4), (.slice B5 x.bws.length m5), .slice Atv x.times.length ctv, .slice Azv x.zones.length czv, (.slice B6 x.key.length m6), (.slice B7 x.atts.length m7), .slice Amv x.media.length cmv])) w9 (fun k => w.heap.size <= k) /\ Nw w w9) := hid ⟨fun W hW2 => ⟨_, _, _, _, _, _, _, _, _, _, _, rfl, ⟨hv, HM.out.user, HM.out.oid, HM.out.over, HM.out.onet, HM.out.oaddr, HM.out.oadr, HM.out.name, g0 W hW2, g1 W hW2, g2 W hW2, g3 W hW2, g4' W hW2, g5 W hW2, (hTZ W hW2).1, (hTZ W hW2).2, g6 W hW2, g7' W hW2, hMM W hW2⟩⟩, hW9⟩
  clear hr0w hmv hmr hTZ hMM g0 g1 g2 g3 g4' g5 g6 g7'
  go_wp2
  refine bodyPost_ret (results_cell_row (fn := f49) rfl _ _ r0 33 _ (0, 0) _ rfl hR9 underlying33 rfl (by kernel_rfl)) rfl ?_
  exact ⟨_, rfl, R9.out.1, R9.out.2⟩
end Go.Proofs.YtcepdjlknalmnaaGreatDoor

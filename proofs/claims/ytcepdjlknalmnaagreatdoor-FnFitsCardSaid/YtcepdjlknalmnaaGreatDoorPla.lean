/- What the thin package reads out of the package's session. Written by a small program of this claim's own (genpla). -/
import Derived.Test.YtcepdjlknalmnaaGreatDoorSrow
import Derived.Test.YtcepdjlknalmnaaGreatDoorFin
import Derived.Deep.Cut
import Derived.Deep.CutRange
import Derived.Deep.RegionLaw
import Derived.Laws.Tables
import Derived.Deep.RegionHeldLaw
import Derived.Test.YtcepdjlknalmnaaGreatDoorRepC
namespace Go.Proofs.YtcepdjlknalmnaaGreatDoor
open Go.RowKit
set_option linter.unusedSimpArgs false
set_option linter.unusedVariables false
attribute [local go_sem ↓] Go.wp_at_zero Go.wp_at_succ wp_store33
attribute [local go_sem] storeOk_row rowIs_made rowIs_drew oneC_int oneC_string oneC_slice blockOf_ptr cellsOf_agg

theorem Blk.setP {w : World} {g : Nat} {l : List Value} {t : TypeId} (h : Blk w g l t) (j : Nat) (u : Value) (l2 : List Value) (e : l.set j u = l2) : Blk (w.setCell ⟨g, j, none⟩ u) g l2 t := e ▸ h.set j u
theorem inf71 : (Tryz.prog.info? 71).map (fun i => (i.zero, i.size, i.bytes)) = some (some (.agg #[.int .u64 0, .int .u64 0, .slice none 0 0]), 3, 40) := by kernel_rfl
theorem tim_one (a b : Int) (A : Option Addr) (n c : Nat) : ([.int .u64 a, .int .u64 b, .slice A n c] : List Value).length = 3 ∧ ∀ u ∈ ([.int .u64 a, .int .u64 b, .slice A n c] : List Value), u.oneCell' = true := by
  refine ⟨rfl, fun u hu => ?_⟩
  simp only [List.mem_cons, List.not_mem_nil, or_false] at hu
  rcases hu with rfl | rfl | rfl <;> rfl
theorem inf77 : (Tryz.prog.info? 77).map (fun i => (i.zero, i.size, i.bytes)) = some (some (.agg #[.int .i64 0, .int .i64 0, .slice none 0 0]), 3, 40) := by kernel_rfl
theorem rep_one (a b : Int) (A : Option Addr) (n c : Nat) : ([.int .i64 a, .int .i64 b, .slice A n c] : List Value).length = 3 ∧ ∀ u ∈ ([.int .i64 a, .int .i64 b, .slice A n c] : List Value), u.oneCell' = true := by
  refine ⟨rfl, fun u hu => ?_⟩
  simp only [List.mem_cons, List.not_mem_nil, or_false] at hu
  rcases hu with rfl | rfl | rfl <;> rfl
theorem foot_done {Q : World → Prop} {c z wc : World} {g4 n0 : Nat} (h : Foot Q z (fun k => c.heap.size ≤ k)) (hf : Fr (fun k => k = g4) z wc) (h0 : n0 ≤ c.heap.size) (hg : g4 < c.heap.size ∨ z.heap.size ≤ g4) : Foot Q wc (fun k => n0 ≤ k ∧ ¬ k = g4) :=
  (h.fr hf (fun k hk hok e => by omega)).mono (fun k _ e => ⟨by omega, by omega⟩)
set_option maxRecDepth 100000 in
set_option maxHeartbeats 40000000 in
theorem imp_plain0 (x : Ssn) (D : Nat) (w : World) (vi vu ve vp vc vb vt vz vk va vm : Value) (hD : Blk w D (psnCells x vi vu ve vp vc vb vt vz vk va vm) 115) (m : PSsnAt w x vi vu ve vp vc vb vt vz vk va vm) (hv : WfInt .i64 x.ver)
    (hl : x.bws.length ≤ 2147483647 ∧ x.atts.length ≤ 2147483647 ∧ x.times.length ≤ 2147483647 ∧ x.zones.length ≤ 2147483647 ∧ x.media.length ≤ 2147483647) (hlt : ∀ t ∈ x.times, t.reps.length ≤ 2147483647 ∧ ∀ r ∈ t.reps, r.offs.length ≤ 2147483647)
    (h0 : (∀ t ∈ x.times, t.reps = []) ∧ x.zones = [] ∧ x.media = []) (hlm : ∀ y ∈ x.media, y.protos.length ≤ 2147483647 ∧ y.fmts.length ≤ 2147483647 ∧ y.bws.length ≤ 2147483647 ∧ y.atts.length ≤ 2147483647) :
    Calls Tryz.prog 49 #[.pointer (some ⟨D, 0, none⟩)] w fun e w' => ∃ v, e = .returned v ∧ Foot (fun W => Reads W x v) w' (fun k => w.heap.size ≤ k) ∧ Nw w w' := by
  obtain ⟨r0, hr0⟩ : ∃ r, r = w.heap.size := ⟨_, rfl⟩
  obtain ⟨o, ho⟩ : ∃ r, r = w.heap.size + 1 := ⟨_, rfl⟩
  obtain ⟨wa, hwa⟩ : ∃ wa, wa = w.alloc (.cells #[.int .i64 0, .string ⟨#[]⟩, .int .u64 0, .int .u64 0, .string ⟨#[]⟩, .string ⟨#[]⟩, .string ⟨#[]⟩, .string ⟨#[]⟩, .slice none 0 0, .slice none 0 0, .slice none 0 0, .slice none 0 0, .slice none 0 0, .slice none 0 0, .slice none 0 0, .slice none 0 0, .slice none 0 0, .slice none 0 0, .slice none 0 0] 33) := ⟨_, rfl⟩
  have qa : Nw w wa := by rw [hwa]; exact (Nw.refl w).alloc _
  have hRa : Blk wa r0 [.int .i64 0, .string ⟨#[]⟩, .int .u64 0, .int .u64 0, .string ⟨#[]⟩, .string ⟨#[]⟩, .string ⟨#[]⟩, .string ⟨#[]⟩, .slice none 0 0, .slice none 0 0, .slice none 0 0, .slice none 0 0, .slice none 0 0, .slice none 0 0, .slice none 0 0, .slice none 0 0, .slice none 0 0, .slice none 0 0, .slice none 0 0] 33 := by rw [hwa, hr0]; exact Blk.made w _ 33
  have hoa : o = wa.heap.size := by rw [ho, hwa]; simp
  obtain ⟨w0, hw0⟩ : ∃ w0, w0 = wa.alloc (.cells #[.string x.org.user, .int .u64 x.org.id, .int .u64 x.org.ver, .string x.org.net, .string x.org.addr, .string x.org.adr] 101) := ⟨_, rfl⟩
  have q0 : Nw w w0 := by rw [hw0]; exact qa.alloc _
  have hR0 : Blk w0 r0 [.int .i64 0, .string ⟨#[]⟩, .int .u64 0, .int .u64 0, .string ⟨#[]⟩, .string ⟨#[]⟩, .string ⟨#[]⟩, .string ⟨#[]⟩, .slice none 0 0, .slice none 0 0, .slice none 0 0, .slice none 0 0, .slice none 0 0, .slice none 0 0, .slice none 0 0, .slice none 0 0, .slice none 0 0, .slice none 0 0, .slice none 0 0] 33 := by rw [hw0]; exact Blk.alloc hRa _
  have hO0 : Blk w0 o [.string x.org.user, .int .u64 x.org.id, .int .u64 x.org.ver, .string x.org.net, .string x.org.addr, .string x.org.adr] 101 := by rw [hw0, hoa]; exact Blk.made wa _ 101
  have hD0 := hD.nw q0
  have HS0 : Hid (∀ w', Nw w0 w' → (w'.cell? ⟨D, 0, none⟩ = some (.int .i64 x.ver) ∧ w'.cell? ⟨D, 7, none⟩ = some (.string x.name) ∧ w'.cell? ⟨D, 8, none⟩ = some (vi) ∧ w'.cell? ⟨D, 9, none⟩ = some (vu) ∧ w'.cell? ⟨D, 10, none⟩ = some (ve) ∧ w'.cell? ⟨D, 11, none⟩ = some (vp) ∧ w'.cell? ⟨D, 12, none⟩ = some (vc) ∧ w'.cell? ⟨D, 13, none⟩ = some (vb) ∧ w'.cell? ⟨D, 16, none⟩ = some (vk) ∧ w'.cell? ⟨D, 17, none⟩ = some (va) ∧ w'.cell? ⟨o, 0, none⟩ = some (.string x.org.user) ∧ w'.cell? ⟨o, 1, none⟩ = some (.int .u64 x.org.id) ∧ w'.cell? ⟨o, 2, none⟩ = some (.int .u64 x.org.ver) ∧ w'.cell? ⟨o, 3, none⟩ = some (.string x.org.net) ∧ w'.cell? ⟨o, 4, none⟩ = some (.string x.org.addr) ∧ w'.cell? ⟨o, 5, none⟩ = some (.string x.org.adr))) := Lib.hid (fun w' hn => ⟨(hD0.nw hn).cell 0 rfl, (hD0.nw hn).cell 7 rfl, (hD0.nw hn).cell 8 rfl, (hD0.nw hn).cell 9 rfl, (hD0.nw hn).cell 10 rfl, (hD0.nw hn).cell 11 rfl, (hD0.nw hn).cell 12 rfl, (hD0.nw hn).cell 13 rfl, (hD0.nw hn).cell 16 rfl, (hD0.nw hn).cell 17 rfl, (hO0.nw hn).cell 0 rfl, (hO0.nw hn).cell 1 rfl, (hO0.nw hn).cell 2 rfl, (hO0.nw hn).cell 3 rfl, (hO0.nw hn).cell 4 rfl, (hO0.nw hn).cell 5 rfl⟩)
  have d1 := (hD.nw qa).cell 1 rfl
  have d2 := (hD.nw qa).cell 2 rfl
  have d3 := (hD.nw qa).cell 3 rfl
  have d4 := (hD.nw qa).cell 4 rfl
  have d5 := (hD.nw qa).cell 5 rfl
  have d6 := (hD.nw qa).cell 6 rfl
  go_enter Tryz.func49, Tryz.ntmps49
  go_upto_region 1 with fail
  rw [← hwa, ← hr0]
  clear hwa ho
  go_upto_region 2 with fail
  rw [← hw0, ← hoa]
  have HR := Lib.hid hr0
  have HO := Lib.hid hoa
  clear hw0 hr0 hoa d1 d2 d3 d4 d5 d6
  go_cut [4] from 15 (fun v4 wc => ∃ g4 u0 u1 u2 u3 u4 u5 u6 u7, v4 = .pointer (some ⟨g4, 0, none⟩) ∧ w0.heap.size ≤ g4 ∧ Blk wc g4 [.int .i64 x.ver, .string x.org.user, .int .u64 x.org.id, .int .u64 x.org.ver, .string x.org.net, .string x.org.addr, .string x.org.adr, .string x.name, u0, u1, u2, u3, u4, u5, .slice none 0 0, .slice none 0 0, u6, u7, .slice none 0 0] 33 ∧ Nw w0 wc ∧ Foot (fun W => tyStr.Sl W x.info u0) wc (fun k => w0.heap.size ≤ k ∧ ¬ k = g4) ∧ Foot (fun W => tyStr.Sl W x.uri u1) wc (fun k => w0.heap.size ≤ k ∧ ¬ k = g4) ∧ Foot (fun W => tyStr.Sl W x.email u2) wc (fun k => w0.heap.size ≤ k ∧ ¬ k = g4) ∧ Foot (fun W => tyStr.Sl W x.phone u3) wc (fun k => w0.heap.size ≤ k ∧ ¬ k = g4) ∧ Foot (fun W => tyCon.Sl W x.conn u4) wc (fun k => w0.heap.size ≤ k ∧ ¬ k = g4) ∧ Foot (fun W => tyBwd.Sl W x.bws u5) wc (fun k => w0.heap.size ≤ k ∧ ¬ k = g4) ∧ Foot (fun W => tyStr.Sl W x.key u6) wc (fun k => w0.heap.size ≤ k ∧ ¬ k = g4) ∧ Foot (fun W => tyAtt.Sl W x.atts u7) wc (fun k => w0.heap.size ≤ k ∧ ¬ k = g4))
  case first =>
   go_region_held3 (fun w' => w'.cell? ⟨D, 0, none⟩ = some (.int .i64 x.ver) ∧ w'.cell? ⟨D, 7, none⟩ = some (.string x.name) ∧ w'.cell? ⟨D, 8, none⟩ = some (vi) ∧ w'.cell? ⟨D, 9, none⟩ = some (vu) ∧ w'.cell? ⟨D, 10, none⟩ = some (ve) ∧ w'.cell? ⟨D, 11, none⟩ = some (vp) ∧ w'.cell? ⟨D, 12, none⟩ = some (vc) ∧ w'.cell? ⟨D, 13, none⟩ = some (vb) ∧ w'.cell? ⟨D, 16, none⟩ = some (vk) ∧ w'.cell? ⟨D, 17, none⟩ = some (va) ∧ w'.cell? ⟨o, 0, none⟩ = some (.string x.org.user) ∧ w'.cell? ⟨o, 1, none⟩ = some (.int .u64 x.org.id) ∧ w'.cell? ⟨o, 2, none⟩ = some (.int .u64 x.org.ver) ∧ w'.cell? ⟨o, 3, none⟩ = some (.string x.org.net) ∧ w'.cell? ⟨o, 4, none⟩ = some (.string x.org.addr) ∧ w'.cell? ⟨o, 5, none⟩ = some (.string x.org.adr)) (((with_reducible refine HS0.out _ ?_); (repeat (first | (with_reducible assumption) | (with_reducible exact Nw.refl _) | (with_reducible refine Nw.drew ?_) | (with_reducible refine Nw.alloc ?_ _) | (with_reducible refine Nw.setRow ?_ ?_ _) | exact Nat.le_refl _ | exact sz0 | exact sz1 | exact sz2 | exact sz3 | exact sz4 | exact sz5 | exact sz6 | exact sz7)); done)) (first
    | (go_at_call 67; (with_reducible refine (imp_texts67 x.info vi _ ?_).mono ?_); (focus refine Ty.Pt_loc (Nw.block (w := w) (Nw.trans q0 ?_)) m.info; (repeat (first | (with_reducible assumption) | (with_reducible exact Nw.refl _) | (with_reducible refine Nw.drew ?_) | (with_reducible refine Nw.drewN ?_ _) | (with_reducible refine Nw.alloc ?_ _))); done); rintro e z0 ⟨t0, rfl, hs0, hn0⟩; have hp0 : Nw w0 z0 := (by refine Nw.trans ?_ hn0; (repeat (first | (with_reducible assumption) | (with_reducible exact Nw.refl _) | (with_reducible refine Nw.drew ?_) | (with_reducible refine Nw.drewN ?_ _) | (with_reducible refine Nw.alloc ?_ _))); done); have sz0 := hp0.size; have hr0 : Nw w0 z0 := (by refine Nw.trans ?_ hn0; (repeat (first | (with_reducible assumption) | (with_reducible exact Nw.refl _) | (with_reducible refine Nw.drew ?_) | (with_reducible refine Nw.drewN ?_ _) | (with_reducible refine Nw.alloc ?_ _))); done); have szc0 := hn0.size; (try simp only [World.alloc, World.drew, Array.size_push] at szc0); obtain ⟨A0, n0, rfl⟩ := Ty.Sl_form hs0.now; (try have hB := Blk.nw (Blk.made _ [.int .i64 0, .string ⟨#[]⟩, .int .u64 0, .int .u64 0, .string ⟨#[]⟩, .string ⟨#[]⟩, .string ⟨#[]⟩, .string ⟨#[]⟩, .slice none 0 0, .slice none 0 0, .slice none 0 0, .slice none 0 0, .slice none 0 0, .slice none 0 0, .slice none 0 0, .slice none 0 0, .slice none 0 0, .slice none 0 0, .slice none 0 0] 33) hn0); (try have hB := Blk.nw (Blk.drew (Blk.made _ [.int .i64 0, .string ⟨#[]⟩, .int .u64 0, .int .u64 0, .string ⟨#[]⟩, .string ⟨#[]⟩, .string ⟨#[]⟩, .string ⟨#[]⟩, .slice none 0 0, .slice none 0 0, .slice none 0 0, .slice none 0 0, .slice none 0 0, .slice none 0 0, .slice none 0 0, .slice none 0 0, .slice none 0 0, .slice none 0 0, .slice none 0 0] 33)) hn0); (try have hB := Blk.nw hB hn0))
    | (go_at_call 68; (with_reducible refine (imp_urls x.uri vu _ ?_).mono ?_); (focus refine Ty.Pt_loc (Nw.block (w := w) (Nw.trans q0 ?_)) m.uri; (repeat (first | (with_reducible assumption) | (with_reducible exact Nw.refl _) | (with_reducible refine Nw.drew ?_) | (with_reducible refine Nw.drewN ?_ _) | (with_reducible refine Nw.alloc ?_ _))); done); rintro e z1 ⟨t1, rfl, hs1, hn1⟩; have hp1 : Nw w0 z1 := (by refine Nw.trans ?_ hn1; (repeat (first | (with_reducible assumption) | (with_reducible exact Nw.refl _) | (with_reducible refine Nw.drew ?_) | (with_reducible refine Nw.drewN ?_ _) | (with_reducible refine Nw.alloc ?_ _))); done); have sz1 := hp1.size; have hr1 : Nw z0 z1 := (by refine Nw.trans ?_ hn1; (repeat (first | (with_reducible assumption) | (with_reducible exact Nw.refl _) | (with_reducible refine Nw.drew ?_) | (with_reducible refine Nw.drewN ?_ _) | (with_reducible refine Nw.alloc ?_ _))); done); have szc1 := hn1.size; (try simp only [World.alloc, World.drew, Array.size_push] at szc1); obtain ⟨A1, n1, rfl⟩ := Ty.Sl_form hs1.now; (try have hB := Blk.nw (Blk.made _ [.int .i64 0, .string ⟨#[]⟩, .int .u64 0, .int .u64 0, .string ⟨#[]⟩, .string ⟨#[]⟩, .string ⟨#[]⟩, .string ⟨#[]⟩, .slice none 0 0, .slice none 0 0, .slice none 0 0, .slice none 0 0, .slice none 0 0, .slice none 0 0, .slice none 0 0, .slice none 0 0, .slice none 0 0, .slice none 0 0, .slice none 0 0] 33) hn1); (try have hB := Blk.nw (Blk.drew (Blk.made _ [.int .i64 0, .string ⟨#[]⟩, .int .u64 0, .int .u64 0, .string ⟨#[]⟩, .string ⟨#[]⟩, .string ⟨#[]⟩, .string ⟨#[]⟩, .slice none 0 0, .slice none 0 0, .slice none 0 0, .slice none 0 0, .slice none 0 0, .slice none 0 0, .slice none 0 0, .slice none 0 0, .slice none 0 0, .slice none 0 0, .slice none 0 0] 33)) hn1); (try have hB := Blk.nw hB hn1))
    | (go_at_call 69; (with_reducible refine (imp_texts69 x.email ve _ ?_).mono ?_); (focus refine Ty.Pt_loc (Nw.block (w := w) (Nw.trans q0 ?_)) m.email; (repeat (first | (with_reducible assumption) | (with_reducible exact Nw.refl _) | (with_reducible refine Nw.drew ?_) | (with_reducible refine Nw.drewN ?_ _) | (with_reducible refine Nw.alloc ?_ _))); done); rintro e z2 ⟨t2, rfl, hs2, hn2⟩; have hp2 : Nw w0 z2 := (by refine Nw.trans ?_ hn2; (repeat (first | (with_reducible assumption) | (with_reducible exact Nw.refl _) | (with_reducible refine Nw.drew ?_) | (with_reducible refine Nw.drewN ?_ _) | (with_reducible refine Nw.alloc ?_ _))); done); have sz2 := hp2.size; have hr2 : Nw z1 z2 := (by refine Nw.trans ?_ hn2; (repeat (first | (with_reducible assumption) | (with_reducible exact Nw.refl _) | (with_reducible refine Nw.drew ?_) | (with_reducible refine Nw.drewN ?_ _) | (with_reducible refine Nw.alloc ?_ _))); done); have szc2 := hn2.size; (try simp only [World.alloc, World.drew, Array.size_push] at szc2); obtain ⟨A2, n2, rfl⟩ := Ty.Sl_form hs2.now; (try have hB := Blk.nw (Blk.made _ [.int .i64 0, .string ⟨#[]⟩, .int .u64 0, .int .u64 0, .string ⟨#[]⟩, .string ⟨#[]⟩, .string ⟨#[]⟩, .string ⟨#[]⟩, .slice none 0 0, .slice none 0 0, .slice none 0 0, .slice none 0 0, .slice none 0 0, .slice none 0 0, .slice none 0 0, .slice none 0 0, .slice none 0 0, .slice none 0 0, .slice none 0 0] 33) hn2); (try have hB := Blk.nw (Blk.drew (Blk.made _ [.int .i64 0, .string ⟨#[]⟩, .int .u64 0, .int .u64 0, .string ⟨#[]⟩, .string ⟨#[]⟩, .string ⟨#[]⟩, .string ⟨#[]⟩, .slice none 0 0, .slice none 0 0, .slice none 0 0, .slice none 0 0, .slice none 0 0, .slice none 0 0, .slice none 0 0, .slice none 0 0, .slice none 0 0, .slice none 0 0, .slice none 0 0] 33)) hn2); (try have hB := Blk.nw hB hn2))
    | (go_at_call 70; (with_reducible refine (imp_texts70 x.phone vp _ ?_).mono ?_); (focus refine Ty.Pt_loc (Nw.block (w := w) (Nw.trans q0 ?_)) m.phone; (repeat (first | (with_reducible assumption) | (with_reducible exact Nw.refl _) | (with_reducible refine Nw.drew ?_) | (with_reducible refine Nw.drewN ?_ _) | (with_reducible refine Nw.alloc ?_ _))); done); rintro e z3 ⟨t3, rfl, hs3, hn3⟩; have hp3 : Nw w0 z3 := (by refine Nw.trans ?_ hn3; (repeat (first | (with_reducible assumption) | (with_reducible exact Nw.refl _) | (with_reducible refine Nw.drew ?_) | (with_reducible refine Nw.drewN ?_ _) | (with_reducible refine Nw.alloc ?_ _))); done); have sz3 := hp3.size; have hr3 : Nw z2 z3 := (by refine Nw.trans ?_ hn3; (repeat (first | (with_reducible assumption) | (with_reducible exact Nw.refl _) | (with_reducible refine Nw.drew ?_) | (with_reducible refine Nw.drewN ?_ _) | (with_reducible refine Nw.alloc ?_ _))); done); have szc3 := hn3.size; (try simp only [World.alloc, World.drew, Array.size_push] at szc3); obtain ⟨A3, n3, rfl⟩ := Ty.Sl_form hs3.now; (try have hB := Blk.nw (Blk.made _ [.int .i64 0, .string ⟨#[]⟩, .int .u64 0, .int .u64 0, .string ⟨#[]⟩, .string ⟨#[]⟩, .string ⟨#[]⟩, .string ⟨#[]⟩, .slice none 0 0, .slice none 0 0, .slice none 0 0, .slice none 0 0, .slice none 0 0, .slice none 0 0, .slice none 0 0, .slice none 0 0, .slice none 0 0, .slice none 0 0, .slice none 0 0] 33) hn3); (try have hB := Blk.nw (Blk.drew (Blk.made _ [.int .i64 0, .string ⟨#[]⟩, .int .u64 0, .int .u64 0, .string ⟨#[]⟩, .string ⟨#[]⟩, .string ⟨#[]⟩, .string ⟨#[]⟩, .slice none 0 0, .slice none 0 0, .slice none 0 0, .slice none 0 0, .slice none 0 0, .slice none 0 0, .slice none 0 0, .slice none 0 0, .slice none 0 0, .slice none 0 0, .slice none 0 0] 33)) hn3); (try have hB := Blk.nw hB hn3))
    | (go_at_call 71; (with_reducible refine (imp_connections x.conn vc _ ?_).mono ?_); (focus refine Ty.Pt_loc (Nw.block (w := w) (Nw.trans q0 ?_)) m.conn; (repeat (first | (with_reducible assumption) | (with_reducible exact Nw.refl _) | (with_reducible refine Nw.drew ?_) | (with_reducible refine Nw.drewN ?_ _) | (with_reducible refine Nw.alloc ?_ _))); done); rintro e z4 ⟨t4, rfl, hs4, hn4⟩; have hp4 : Nw w0 z4 := (by refine Nw.trans ?_ hn4; (repeat (first | (with_reducible assumption) | (with_reducible exact Nw.refl _) | (with_reducible refine Nw.drew ?_) | (with_reducible refine Nw.drewN ?_ _) | (with_reducible refine Nw.alloc ?_ _))); done); have sz4 := hp4.size; have hr4 : Nw z3 z4 := (by refine Nw.trans ?_ hn4; (repeat (first | (with_reducible assumption) | (with_reducible exact Nw.refl _) | (with_reducible refine Nw.drew ?_) | (with_reducible refine Nw.drewN ?_ _) | (with_reducible refine Nw.alloc ?_ _))); done); have szc4 := hn4.size; (try simp only [World.alloc, World.drew, Array.size_push] at szc4); obtain ⟨A4, n4, rfl⟩ := Ty.Sl_form hs4.now; (try have hB := Blk.nw (Blk.made _ [.int .i64 0, .string ⟨#[]⟩, .int .u64 0, .int .u64 0, .string ⟨#[]⟩, .string ⟨#[]⟩, .string ⟨#[]⟩, .string ⟨#[]⟩, .slice none 0 0, .slice none 0 0, .slice none 0 0, .slice none 0 0, .slice none 0 0, .slice none 0 0, .slice none 0 0, .slice none 0 0, .slice none 0 0, .slice none 0 0, .slice none 0 0] 33) hn4); (try have hB := Blk.nw (Blk.drew (Blk.made _ [.int .i64 0, .string ⟨#[]⟩, .int .u64 0, .int .u64 0, .string ⟨#[]⟩, .string ⟨#[]⟩, .string ⟨#[]⟩, .string ⟨#[]⟩, .slice none 0 0, .slice none 0 0, .slice none 0 0, .slice none 0 0, .slice none 0 0, .slice none 0 0, .slice none 0 0, .slice none 0 0, .slice none 0 0, .slice none 0 0, .slice none 0 0] 33)) hn4); (try have hB := Blk.nw hB hn4))
    | (go_at_call 72; (with_reducible refine (imp_bandwidths x.bws vb _ ?_ hl.1).mono ?_); (focus refine Ty.Sl_loc (Nw.block (w := w) (Nw.trans q0 ?_)) m.bws; (repeat (first | (with_reducible assumption) | (with_reducible exact Nw.refl _) | (with_reducible refine Nw.drew ?_) | (with_reducible refine Nw.drewN ?_ _) | (with_reducible refine Nw.alloc ?_ _))); done); rintro e z5 ⟨t5, rfl, hs5, hn5⟩; have hp5 : Nw w0 z5 := (by refine Nw.trans ?_ hn5; (repeat (first | (with_reducible assumption) | (with_reducible exact Nw.refl _) | (with_reducible refine Nw.drew ?_) | (with_reducible refine Nw.drewN ?_ _) | (with_reducible refine Nw.alloc ?_ _))); done); have sz5 := hp5.size; have hr5 : Nw z4 z5 := (by refine Nw.trans ?_ hn5; (repeat (first | (with_reducible assumption) | (with_reducible exact Nw.refl _) | (with_reducible refine Nw.drew ?_) | (with_reducible refine Nw.drewN ?_ _) | (with_reducible refine Nw.alloc ?_ _))); done); have szc5 := hn5.size; (try simp only [World.alloc, World.drew, Array.size_push] at szc5); obtain ⟨A5, n5, rfl⟩ := Ty.Sl_form hs5.now; (try have hB := Blk.nw (Blk.made _ [.int .i64 0, .string ⟨#[]⟩, .int .u64 0, .int .u64 0, .string ⟨#[]⟩, .string ⟨#[]⟩, .string ⟨#[]⟩, .string ⟨#[]⟩, .slice none 0 0, .slice none 0 0, .slice none 0 0, .slice none 0 0, .slice none 0 0, .slice none 0 0, .slice none 0 0, .slice none 0 0, .slice none 0 0, .slice none 0 0, .slice none 0 0] 33) hn5); (try have hB := Blk.nw (Blk.drew (Blk.made _ [.int .i64 0, .string ⟨#[]⟩, .int .u64 0, .int .u64 0, .string ⟨#[]⟩, .string ⟨#[]⟩, .string ⟨#[]⟩, .string ⟨#[]⟩, .slice none 0 0, .slice none 0 0, .slice none 0 0, .slice none 0 0, .slice none 0 0, .slice none 0 0, .slice none 0 0, .slice none 0 0, .slice none 0 0, .slice none 0 0, .slice none 0 0] 33)) hn5); (try have hB := Blk.nw hB hn5))
    | (go_at_call 73; (with_reducible refine (imp_texts73 x.key vk _ ?_).mono ?_); (focus refine Ty.Pt_loc (Nw.block (w := w) (Nw.trans q0 ?_)) m.key; (repeat (first | (with_reducible assumption) | (with_reducible exact Nw.refl _) | (with_reducible refine Nw.drew ?_) | (with_reducible refine Nw.drewN ?_ _) | (with_reducible refine Nw.alloc ?_ _))); done); rintro e z6 ⟨t6, rfl, hs6, hn6⟩; have hp6 : Nw w0 z6 := (by refine Nw.trans ?_ hn6; (repeat (first | (with_reducible assumption) | (with_reducible exact Nw.refl _) | (with_reducible refine Nw.drew ?_) | (with_reducible refine Nw.drewN ?_ _) | (with_reducible refine Nw.alloc ?_ _))); done); have sz6 := hp6.size; have hr6 : Nw z5 z6 := (by refine Nw.trans ?_ hn6; (repeat (first | (with_reducible assumption) | (with_reducible exact Nw.refl _) | (with_reducible refine Nw.drew ?_) | (with_reducible refine Nw.drewN ?_ _) | (with_reducible refine Nw.alloc ?_ _))); done); have szc6 := hn6.size; (try simp only [World.alloc, World.drew, Array.size_push] at szc6); obtain ⟨A6, n6, rfl⟩ := Ty.Sl_form hs6.now; (try have hB := Blk.nw (Blk.made _ [.int .i64 0, .string ⟨#[]⟩, .int .u64 0, .int .u64 0, .string ⟨#[]⟩, .string ⟨#[]⟩, .string ⟨#[]⟩, .string ⟨#[]⟩, .slice none 0 0, .slice none 0 0, .slice none 0 0, .slice none 0 0, .slice none 0 0, .slice none 0 0, .slice none 0 0, .slice none 0 0, .slice none 0 0, .slice none 0 0, .slice none 0 0] 33) hn6); (try have hB := Blk.nw (Blk.drew (Blk.made _ [.int .i64 0, .string ⟨#[]⟩, .int .u64 0, .int .u64 0, .string ⟨#[]⟩, .string ⟨#[]⟩, .string ⟨#[]⟩, .string ⟨#[]⟩, .slice none 0 0, .slice none 0 0, .slice none 0 0, .slice none 0 0, .slice none 0 0, .slice none 0 0, .slice none 0 0, .slice none 0 0, .slice none 0 0, .slice none 0 0, .slice none 0 0] 33)) hn6); (try have hB := Blk.nw hB hn6))
    | (go_at_call 74; (with_reducible refine (imp_attributes x.atts va _ ?_ hl.2.1).mono ?_); (focus refine Ty.Sl_loc (Nw.block (w := w) (Nw.trans q0 ?_)) m.atts; (repeat (first | (with_reducible assumption) | (with_reducible exact Nw.refl _) | (with_reducible refine Nw.drew ?_) | (with_reducible refine Nw.drewN ?_ _) | (with_reducible refine Nw.alloc ?_ _))); done); rintro e z7 ⟨t7, rfl, hs7, hn7⟩; have hp7 : Nw w0 z7 := (by refine Nw.trans ?_ hn7; (repeat (first | (with_reducible assumption) | (with_reducible exact Nw.refl _) | (with_reducible refine Nw.drew ?_) | (with_reducible refine Nw.drewN ?_ _) | (with_reducible refine Nw.alloc ?_ _))); done); have sz7 := hp7.size; have hr7 : Nw z6 z7 := (by refine Nw.trans ?_ hn7; (repeat (first | (with_reducible assumption) | (with_reducible exact Nw.refl _) | (with_reducible refine Nw.drew ?_) | (with_reducible refine Nw.drewN ?_ _) | (with_reducible refine Nw.alloc ?_ _))); done); have szc7 := hn7.size; (try simp only [World.alloc, World.drew, Array.size_push] at szc7); obtain ⟨A7, n7, rfl⟩ := Ty.Sl_form hs7.now; (try have hB := Blk.nw (Blk.made _ [.int .i64 0, .string ⟨#[]⟩, .int .u64 0, .int .u64 0, .string ⟨#[]⟩, .string ⟨#[]⟩, .string ⟨#[]⟩, .string ⟨#[]⟩, .slice none 0 0, .slice none 0 0, .slice none 0 0, .slice none 0 0, .slice none 0 0, .slice none 0 0, .slice none 0 0, .slice none 0 0, .slice none 0 0, .slice none 0 0, .slice none 0 0] 33) hn7); (try have hB := Blk.nw (Blk.drew (Blk.made _ [.int .i64 0, .string ⟨#[]⟩, .int .u64 0, .int .u64 0, .string ⟨#[]⟩, .string ⟨#[]⟩, .string ⟨#[]⟩, .string ⟨#[]⟩, .slice none 0 0, .slice none 0 0, .slice none 0 0, .slice none 0 0, .slice none 0 0, .slice none 0 0, .slice none 0 0, .slice none 0 0, .slice none 0 0, .slice none 0 0, .slice none 0 0] 33)) hn7); (try have hB := Blk.nw hB hn7); (try have hrow := rowIs_blk (n := 19) hB rfl)))
   all_goals
    as_aux_lemma =>
      go_wp2
      have ch7 : Nw z7 z7 := Nw.refl _
      have ch6 : Nw z6 z7 := hr7.trans ch7
      have ch5 : Nw z5 z7 := hr6.trans ch6
      have ch4 : Nw z4 z7 := hr5.trans ch5
      have ch3 : Nw z3 z7 := hr4.trans ch4
      have ch2 : Nw z2 z7 := hr3.trans ch3
      have ch1 : Nw z1 z7 := hr2.trans ch2
      have ch0 : Nw z0 z7 := hr1.trans ch1
      go_meet
      case rel =>
       refine ⟨_, _, _, _, _, _, _, _, _, rfl, ?_, ?_, ?_, foot_done hs0 ?_ ?_ ?_, foot_done hs1 ?_ ?_ ?_, foot_done hs2 ?_ ?_ ?_, foot_done hs3 ?_ ?_ ?_, foot_done hs4 ?_ ?_ ?_, foot_done hs5 ?_ ?_ ?_, foot_done hs6 ?_ ?_ ?_, foot_done hs7 ?_ ?_ ?_⟩
       · first | exact Nat.le_refl _ | exact sz0 | exact sz1 | exact sz2 | exact sz3 | exact sz4 | exact sz5 | exact sz6 | exact sz7
       · first | (with_reducible exact blk_setRow hB) | (with_reducible exact blk_setRow (Blk.made _ _ 33)) | (with_reducible exact blk_setRow (Blk.drew (Blk.made _ _ 33))) | exact blk_setRow (Blk.made _ _ 33)
       · (repeat (first | (with_reducible assumption) | (with_reducible exact Nw.refl _) | (with_reducible refine Nw.drew ?_) | (with_reducible refine Nw.alloc ?_ _) | (with_reducible refine Nw.setRow ?_ ?_ _) | exact Nat.le_refl _ | exact sz0 | exact sz1 | exact sz2 | exact sz3 | exact sz4 | exact sz5 | exact sz6 | exact sz7))
       · (repeat (first | (with_reducible exact Nw.fr ch0 _) | (with_reducible refine Fr.setRowG ?_ _) | (with_reducible refine Fr.alloc ?_ _) | (with_reducible refine Fr.drew ?_)))
       · first | exact Nat.le_refl _ | exact sz0 | exact sz1 | exact sz2 | exact sz3 | exact sz4 | exact sz5 | exact sz6 | exact sz7 | (simp only [World.alloc, World.drew, Array.size_push]; omega)
       · first | exact .inl (by simp only [World.alloc, World.drew, Array.size_push]; omega) | exact .inr (by omega) | exact .inl (by omega)
       · (repeat (first | (with_reducible exact Nw.fr ch1 _) | (with_reducible refine Fr.setRowG ?_ _) | (with_reducible refine Fr.alloc ?_ _) | (with_reducible refine Fr.drew ?_)))
       · first | exact Nat.le_refl _ | exact sz0 | exact sz1 | exact sz2 | exact sz3 | exact sz4 | exact sz5 | exact sz6 | exact sz7 | (simp only [World.alloc, World.drew, Array.size_push]; omega)
       · first | exact .inl (by simp only [World.alloc, World.drew, Array.size_push]; omega) | exact .inr (by omega) | exact .inl (by omega)
       · (repeat (first | (with_reducible exact Nw.fr ch2 _) | (with_reducible refine Fr.setRowG ?_ _) | (with_reducible refine Fr.alloc ?_ _) | (with_reducible refine Fr.drew ?_)))
       · first | exact Nat.le_refl _ | exact sz0 | exact sz1 | exact sz2 | exact sz3 | exact sz4 | exact sz5 | exact sz6 | exact sz7 | (simp only [World.alloc, World.drew, Array.size_push]; omega)
       · first | exact .inl (by simp only [World.alloc, World.drew, Array.size_push]; omega) | exact .inr (by omega) | exact .inl (by omega)
       · (repeat (first | (with_reducible exact Nw.fr ch3 _) | (with_reducible refine Fr.setRowG ?_ _) | (with_reducible refine Fr.alloc ?_ _) | (with_reducible refine Fr.drew ?_)))
       · first | exact Nat.le_refl _ | exact sz0 | exact sz1 | exact sz2 | exact sz3 | exact sz4 | exact sz5 | exact sz6 | exact sz7 | (simp only [World.alloc, World.drew, Array.size_push]; omega)
       · first | exact .inl (by simp only [World.alloc, World.drew, Array.size_push]; omega) | exact .inr (by omega) | exact .inl (by omega)
       · (repeat (first | (with_reducible exact Nw.fr ch4 _) | (with_reducible refine Fr.setRowG ?_ _) | (with_reducible refine Fr.alloc ?_ _) | (with_reducible refine Fr.drew ?_)))
       · first | exact Nat.le_refl _ | exact sz0 | exact sz1 | exact sz2 | exact sz3 | exact sz4 | exact sz5 | exact sz6 | exact sz7 | (simp only [World.alloc, World.drew, Array.size_push]; omega)
       · first | exact .inl (by simp only [World.alloc, World.drew, Array.size_push]; omega) | exact .inr (by omega) | exact .inl (by omega)
       · (repeat (first | (with_reducible exact Nw.fr ch5 _) | (with_reducible refine Fr.setRowG ?_ _) | (with_reducible refine Fr.alloc ?_ _) | (with_reducible refine Fr.drew ?_)))
       · first | exact Nat.le_refl _ | exact sz0 | exact sz1 | exact sz2 | exact sz3 | exact sz4 | exact sz5 | exact sz6 | exact sz7 | (simp only [World.alloc, World.drew, Array.size_push]; omega)
       · first | exact .inl (by simp only [World.alloc, World.drew, Array.size_push]; omega) | exact .inr (by omega) | exact .inl (by omega)
       · (repeat (first | (with_reducible exact Nw.fr ch6 _) | (with_reducible refine Fr.setRowG ?_ _) | (with_reducible refine Fr.alloc ?_ _) | (with_reducible refine Fr.drew ?_)))
       · first | exact Nat.le_refl _ | exact sz0 | exact sz1 | exact sz2 | exact sz3 | exact sz4 | exact sz5 | exact sz6 | exact sz7 | (simp only [World.alloc, World.drew, Array.size_push]; omega)
       · first | exact .inl (by simp only [World.alloc, World.drew, Array.size_push]; omega) | exact .inr (by omega) | exact .inl (by omega)
       · (repeat (first | (with_reducible exact Nw.fr ch7 _) | (with_reducible refine Fr.setRowG ?_ _) | (with_reducible refine Fr.alloc ?_ _) | (with_reducible refine Fr.drew ?_)))
       · first | exact Nat.le_refl _ | exact sz0 | exact sz1 | exact sz2 | exact sz3 | exact sz4 | exact sz5 | exact sz6 | exact sz7 | (simp only [World.alloc, World.drew, Array.size_push]; omega)
       · first | exact .inl (by simp only [World.alloc, World.drew, Array.size_push]; omega) | exact .inr (by omega) | exact .inl (by omega)
  case rest =>
    as_aux_lemma =>
      obtain ⟨g4, a0, a1, a2, a3, a4, a5, a6, a7, rfl, hg4, hB4, hN, F0, F1, F2, F3, F4, F5, F6, F7⟩ := hcut
      obtain ⟨B0, m0, rfl⟩ := Ty.Sl_form F0.now
      obtain ⟨B1, m1, rfl⟩ := Ty.Sl_form F1.now
      obtain ⟨B2, m2, rfl⟩ := Ty.Sl_form F2.now
      obtain ⟨B3, m3, rfl⟩ := Ty.Sl_form F3.now
      obtain ⟨B4, m4, rfl⟩ := Ty.Sl_form F4.now
      obtain ⟨B5, m5, rfl⟩ := Ty.Sl_form F5.now
      obtain ⟨B6, m6, rfl⟩ := Ty.Sl_form F6.now
      obtain ⟨B7, m7, rfl⟩ := Ty.Sl_form F7.now
      have hW : Nw w wc := q0.trans hN
      obtain ⟨At, ct, rfl⟩ := Ty.Sl_form m.times
      obtain ⟨Az, cz, rfl⟩ := Ty.Sl_form m.zones
      obtain ⟨Am, cm, rfl⟩ := Ty.Sl_form m.media
      have hDc := hD.nw hW
      have d14 := hDc.cell 14 rfl
      have hw0 : w.heap.size ≤ w0.heap.size := q0.size
      have hDg : ¬ D = g4 := fun e => by have := hD.lt; omega
      have hg4c := hB4.lt
      have HM := Lib.hid m
      have HLT := Lib.hid hlt
      have HLM := Lib.hid hlm
      have hl3 := hl.2.2
      have HZ0 := Lib.hid h0.1
      have HZZ := Lib.hid h0.2.1
      have HMM := Lib.hid h0.2.2
      clear hD0 hO0 HS0 m hlt hlm hl h0
      go_wp2
      go_loopg [85] x.times.length (fun n i wr => ∃ (k : Nat) (tv : Value), k ≤ x.times.length ∧ n = x.times.length - k ∧ i = .int .i64 k ∧ Blk wr g4 [.int .i64 x.ver, .string x.org.user, .int .u64 x.org.id, .int .u64 x.org.ver, .string x.org.net, .string x.org.addr, .string x.org.adr, .string x.name, (.slice B0 x.info.length m0), (.slice B1 x.uri.length m1), (.slice B2 x.email.length m2), (.slice B3 x.phone.length m3), (.slice B4 x.conn.length m4), (.slice B5 x.bws.length m5), tv, .slice none 0 0, (.slice B6 x.key.length m6), (.slice B7 x.atts.length m7), .slice none 0 0] 33 ∧ RowT tyTim wr wc.heap.size 71 tv (x.times.take k) (fun k => wc.heap.size ≤ k) ∧ Fr (fun k => k = g4) wc wr)
      case atStart => exact ⟨0, .slice none 0 0, Nat.zero_le _, rfl, rfl, hB4, RowT.nil _ _ _ _ _, Fr.refl _ _⟩
      case round =>
        obtain ⟨k, tv, hk, hn, rfl, hBk, hTk, hFk⟩ := hrel
        have HN := Lib.hid hn
        clear hn
        have hOld : ∀ (p : Addr) (u : Value), w.cell? p = some u → wr.cell? p = some u := fun p u hc => hFk.cell (S := fun k => k = g4) (fun e => by have h1 := World.block_lt_of_cell? _ _ hc; have e' : p.block = g4 := e; omega) (hW.cell hc)
        have HOLD := Lib.hid hOld
        clear hOld
        by_cases hlt : k < x.times.length
        · obtain ⟨b, o', rfl, ha⟩ := Ty.Sl_at HM.out.times k hlt
          obtain ⟨cs, ⟨v1, rfl, ht0, ht1, h1⟩, hx⟩ := ha k _ (List.getElem?_eq_getElem hlt)
          obtain ⟨Ar, cr, rfl⟩ := Ty.Sl_form h1
          have c0 := HOLD.out _ _ (hx 0 _ rfl)
          have c1 := HOLD.out _ _ (hx 1 _ rfl)
          have c2 := HOLD.out _ _ (hx 2 _ rfl)
          simp only [tyTim, Nat.add_zero] at c0 c1 c2
          have HT := Lib.hid (take_snoc hlt)
          have hlt2 := HLT.out _ (List.getElem_mem hlt)
          have hrz := HZ0.out _ (List.getElem_mem hlt)
          clear hx ha
          obtain ⟨t, hte⟩ : ∃ t, t = x.times[k] := ⟨_, rfl⟩
          rw [← hte] at c0 c1 c2 ht0 ht1 h1 HT hlt2 hrz
          have HRZ := Lib.hid hrz
          clear hte hrz
          go_upto_region 7 with fail
          obtain ⟨wT, rfl⟩ : ∃ wT, wT = wr := ⟨_, rfl⟩
          obtain ⟨g7, hg7⟩ : ∃ g, g = wT.heap.size + 1 := ⟨_, rfl⟩
          obtain ⟨wB, hwB⟩ : ∃ wB, wB = (wT.alloc (.cells #[.int .u64 t.start, .int .u64 t.stop, .slice Ar t.reps.length cr] 177)).alloc (.cells #[.int .u64 t.start, .int .u64 t.stop, .slice none 0 0] 71) := ⟨_, rfl⟩
          have hqB : Nw wT wB := by rw [hwB]; exact ((Nw.refl wT).alloc _).alloc _
          have hG7 : Blk wB g7 [.int .u64 t.start, .int .u64 t.stop, .slice none 0 0] 71 := by rw [hwB, hg7]; exact Blk.made' (by simp) _ 71
          have hG6 : Blk wB wT.heap.size [.int .u64 t.start, .int .u64 t.stop, .slice Ar t.reps.length cr] 177 := by rw [hwB]; exact Blk.alloc (Blk.made wT _ 177) _
          have e2 := hG6.cell 2 rfl
          have hWT : Nw w wT := hW.frIn hFk (fun k e => by rw [e]; omega)
          have hWB : Nw w wB := hWT.trans hqB
          have hsT : wc.heap.size ≤ wT.heap.size := hFk.size
          have hwc : w.heap.size ≤ wc.heap.size := hW.size
          have hsB : wT.heap.size ≤ wB.heap.size := hqB.size
          rw [← hwB, ← hg7]
          have HG7 := Lib.hid hg7
          have hg7w : wT.heap.size < g7 := by omega
          clear hwB hg7 c0 c1 c2
          go_wp2
          go_loopg [99] t.reps.length (fun n i wr => ∃ (j : Nat) (rv : Value), j ≤ t.reps.length ∧ n = t.reps.length - j ∧ i = .int .i64 j ∧ Blk wr g7 [.int .u64 t.start, .int .u64 t.stop, rv] 71 ∧ RowT tyRep wr wB.heap.size 77 rv (t.reps.take j) (fun k => wB.heap.size ≤ k) ∧ Fr (fun k => k = g7) wB wr)
          case atStart => exact ⟨0, .slice none 0 0, Nat.zero_le _, rfl, rfl, hG7, RowT.nil _ _ _ _ _, Fr.refl _ _⟩
          case round =>
            obtain ⟨j, rv, hj, hn', rfl, hBj, hRj, hFj⟩ := hrel
            have HN2 := Lib.hid hn'
            clear hn'
            by_cases hlt2' : j < t.reps.length
            · exact absurd hlt2' (by rw [HRZ.out]; simp)
            · have hjn : j = t.reps.length := by omega
              subst hjn
              rw [List.take_of_length_le (Nat.le_refl _)] at hRj
              obtain ⟨Arv, crv, rfl, _⟩ := RowT.form hRj
              have hFTr : Fr (fun k => k = g7) wT wr := (hqB.fr _).trans (hFj.mono (fun k _ e => .inl e))
              have hTr := RowT.fr hTk hFTr (fun k hk e => by have := (RowT.base hTk k hk).2; omega) (fun k hk _ e => by omega)
              have hg4T := hBk.lt
              have hBr := hBk.fr hFTr (fun e => by omega)
              obtain ⟨rowsT, hrowT, hrlT, hrgT⟩ := hTr
              have c14 := hBr.cell 14 rfl
              have c70 := hBj.cell 0 rfl
              have c71 := hBj.cell 1 rfl
              have c72 := hBj.cell 2 rfl
              have hownT : ∀ k, tv.ownBlock = some k → wc.heap.size ≤ k ∧ k < wT.heap.size := fun k hk => ⟨(hrowT.base k hk).1, (RowT.base hTk k hk).2⟩
              have hneg4 : ¬ some g4 = tv.ownBlock := fun e => by have := (hownT g4 e.symm).1; omega
              have hrlT2 : rowsT.length ≤ 2147483647 := by rw [hrlT]; simp; omega
              have hsr := hFTr.size
              have HRGT := Lib.hid hrgT
              clear hrgT
              go_wp2_with ((refine at_list rfl fun K hK => ?_; (with_reducible refine row_appendG wc.heap.size (.tmp 118) (.tmp 120) 28 71 3 (.agg #[.int .u64 0, .int .u64 0, .slice none 0 0]) 40 ?_ Tryz.underlying28 inf71 ?_ ?_ tv rowsT [.int .u64 t.start, .int .u64 t.stop, .slice Arv t.reps.length crv] ?_ wr.heap.size ?_ (tim_one t.start t.stop Arv t.reps.length crv) ?_ ?_ ?_ ?_ ?_ ?_); (focus rfl); (focus rfl); (focus decide); (focus rfl); (focus rfl); (focus (exact fun j u hu => Blk.cell (Blk.made wr [.int .u64 t.start, .int .u64 t.stop, .slice Arv t.reps.length crv] 71) j hu)); (focus (exact hrowT.alloc _)); (focus (simp; omega)); (focus omega); (focus omega); intro v8 w8 hr8 hf8 ho8; refine hK _ _ ?_); obtain ⟨Av, cv, rfl, _⟩ := hr8.form; simp only [List.length_append, List.length_cons, List.length_nil, Nat.zero_add] at hr8 ho8; have hB8 := (hBr.alloc _).fr hf8 hneg4; have k8 := hB8.cell 14 rfl; have z8 := hB8.fz 14)
              have hFt := RowT.foot hRj (by omega)
              have hTf : Foot (fun W => tyTim.rel W t [.int .u64 t.start, .int .u64 t.stop, .slice Arv t.reps.length crv]) (wr.alloc (.cells #[.int .u64 t.start, .int .u64 t.stop, .slice Arv t.reps.length crv] 71)) (fun k => wc.heap.size ≤ k ∧ ¬ some k = tv.ownBlock) :=
                Foot.mono ((hFt.nw ((Nw.refl wr).alloc _)).imp (fun W hh => ⟨_, rfl, ht0, ht1, hh⟩)) (fun k _ e => by
                  have h9 : wB.heap.size ≤ k := by rcases e.1 with h | h <;> exact h
                  exact ⟨by omega, fun e2 => by have := (hownT k e2.symm).2; omega⟩)
              have hrt := RowT.snoc (T := tyTim) (xs := x.times.take k) (y := t) (v := tv) (ok := fun k => wc.heap.size ≤ k) hr8 hrlT (fun i y r' hy hr' => ((HRGT.out i y r' hy hr').nw ((Nw.refl wr).alloc _)).mono (fun k _ e => e.1)) hTf hf8 ho8
              have hrl3 : rowsT.length = k := by rw [hrlT]; simp; omega
              rw [hrl3] at hrt
              go_roundg (x.times.length - (k + 1))
              case measure => rw [HN.out]; omega
              case rel =>
                exact ⟨k + 1, .slice Av (k + 1) cv, by omega, rfl, by go_num, (Blk.setP hB8 14 (.slice Av (k + 1) cv) [.int .i64 x.ver, .string x.org.user, .int .u64 x.org.id, .int .u64 x.org.ver, .string x.org.net, .string x.org.addr, .string x.org.adr, .string x.name, (.slice B0 x.info.length m0), (.slice B1 x.uri.length m1), (.slice B2 x.email.length m2), (.slice B3 x.phone.length m3), (.slice B4 x.conn.length m4), (.slice B5 x.bws.length m5), .slice Av (k + 1) cv, .slice none 0 0, (.slice B6 x.key.length m6), (.slice B7 x.atts.length m7), .slice none 0 0] rfl), by
                    rw [HT.out]
                    exact hrt.fr (Fr.self (p := ⟨g4, 14, none⟩) _) (fun j hj e => by have := (RowT.base hrt j hj).1; have e' : j = g4 := e; omega) (fun j hj hok e => by have e' : j = g4 := e; omega),
                  Fr.setCell (S := fun k => k = g4) (p := ⟨g4, 14, none⟩) ((((hFk.trans (hFTr.mono (fun j _ e => .inr (by omega)))).alloc _).trans (hf8.mono (fun j _ e => .inr (hownT j e.symm).1)))) (.inl rfl) _⟩
        · have hkn : k = x.times.length := by omega
          subst hkn
          rw [List.take_of_length_le (Nat.le_refl _)] at hTk
          obtain ⟨Atv, ctv, rfl, _⟩ := RowT.form hTk
          have d15 : wr.cell? ⟨D, 15, none⟩ = some (.slice Az 0 cz) := by
            have := HOLD.out ⟨D, 15, none⟩ _ (hD.cell 15 rfl)
            rw [HZZ.out] at this
            exact this
          have d18 : wr.cell? ⟨D, 18, none⟩ = some (.slice Am 0 cm) := by
            have := HOLD.out ⟨D, 18, none⟩ _ (hD.cell 18 rfl)
            rw [HMM.out] at this
            exact this
          have hr0w : w.heap.size = r0 := HR.out.symm
          have hr0lt := hR0.lt
          have hsT : wc.heap.size ≤ wr.heap.size := hFk.size
          have hRr : Blk wr r0 [.int .i64 0, .string ⟨#[]⟩, .int .u64 0, .int .u64 0, .string ⟨#[]⟩, .string ⟨#[]⟩, .string ⟨#[]⟩, .string ⟨#[]⟩, .slice none 0 0, .slice none 0 0, .slice none 0 0, .slice none 0 0, .slice none 0 0, .slice none 0 0, .slice none 0 0, .slice none 0 0, .slice none 0 0, .slice none 0 0, .slice none 0 0] 33 := (hR0.nw hN).fr hFk (fun e => by omega)
          have hwc : w.heap.size ≤ wc.heap.size := hW.size
          have hw0c : w0.heap.size ≤ wc.heap.size := hN.size
          have hWr : Nw w wr := hW.frIn hFk (fun k e => by rw [e]; omega)
          obtain ⟨wX, hwX⟩ : ∃ wX, wX = wr := ⟨_, rfl⟩
          go_wp2
          go_loopw [129] (fun i wr => i = .int .i64 0 ∧ wr = wX) (fun _ _ => 0)
          case atStart => exact ⟨rfl, hwX.symm⟩
          case round =>
            obtain ⟨rfl, rfl⟩ := hrel
            subst hwX
            obtain ⟨wX, hwX⟩ : ∃ wY, wY = wr := ⟨_, rfl⟩
            go_wp2
            go_loopw [149] (fun i wr => i = .int .i64 0 ∧ wr = wX) (fun _ _ => 0)
            case atStart => exact ⟨rfl, hwX.symm⟩
            case round =>
              obtain ⟨rfl, rfl⟩ := hrel
              subst hwX
              go_upto_region 24 with fail
              rename_i K1 hK1
              apply wp_region_lit
              refine wpList_load_row rfl 33 (.tmp 4) rfl g4 rfl 33 _ (0, 0) _ hBk Tryz.underlying33 rfl (by kernel_rfl) ?_
              refine wpList_store_row rfl 33 (.tmp 2) (.tmp 161) rfl r0 _ rfl rfl 33 _ hRr (by kernel_rfl) rfl (by first | kernel_rfl | simp [Value.oneCell']) ?_
              apply wpList_nil
              refine hK1 _ _ ?_
              obtain ⟨w9, hw9⟩ : ∃ w9, w9 = wr.setRow r0 ([.int .i64 x.ver, .string x.org.user, .int .u64 x.org.id, .int .u64 x.org.ver, .string x.org.net, .string x.org.addr, .string x.org.adr, .string x.name, .slice B0 x.info.length m0, .slice B1 x.uri.length m1, .slice B2 x.email.length m2, .slice B3 x.phone.length m3, .slice B4 x.conn.length m4, .slice B5 x.bws.length m5, .slice Atv x.times.length ctv, .slice none 0 0, .slice B6 x.key.length m6, .slice B7 x.atts.length m7, .slice none 0 0] : List Value).toArray := ⟨_, rfl⟩
              have hR9 : Blk w9 r0 [.int .i64 x.ver, .string x.org.user, .int .u64 x.org.id, .int .u64 x.org.ver, .string x.org.net, .string x.org.addr, .string x.org.adr, .string x.name, .slice B0 x.info.length m0, .slice B1 x.uri.length m1, .slice B2 x.email.length m2, .slice B3 x.phone.length m3, .slice B4 x.conn.length m4, .slice B5 x.bws.length m5, .slice Atv x.times.length ctv, .slice none 0 0, .slice B6 x.key.length m6, .slice B7 x.atts.length m7, .slice none 0 0] 33 := by rw [hw9]; exact blk_setRow hRr
              have hF9 : Fr (fun k => k = r0) wr w9 := by rw [hw9]; exact fr_setRow _ _ _
              rw [← hw9]
              clear hw9
              have hFa : Fr (fun k => k = g4 ∨ k = r0) wc w9 := (hFk.mono (fun k _ e => .inl e)).trans (hF9.mono (fun k _ e => .inl (.inr e)))
              have hmv : ∀ {Q : World → Prop}, Foot Q wc (fun k => w0.heap.size ≤ k ∧ ¬ k = g4) → Foot Q w9 (fun k => r0 ≤ k) := fun h => (h.fr hFa (fun k hk hok e => by rcases e with e | e <;> omega)).mono (fun k _ e => by have := e.1.1; omega)
              have hT9 : Foot (fun W => tyTim.Sl W x.times (.slice Atv x.times.length ctv)) w9 (fun k => r0 ≤ k) := ((RowT.foot hTk (by omega)).fr hF9 (fun k hk hok e => by rcases hok with h | h <;> omega)).mono (fun k _ e => by rcases e.1 with h | h <;> omega)
              go_wp2
              refine bodyPost_ret (results_cell_row (fn := Tryz.f49) rfl _ _ r0 33 _ (0, 0) _ rfl hR9 Tryz.underlying33 rfl (by kernel_rfl)) rfl ?_
              exact ⟨_, rfl, fun W hW => ⟨_, _, _, _, _, _, _, _, _, _, _, rfl, ⟨hv, HM.out.user, HM.out.oid, HM.out.over, HM.out.onet, HM.out.oaddr, HM.out.oadr, HM.out.name, hmv F0 W hW, hmv F1 W hW, hmv F2 W hW, hmv F3 W hW, hmv F4 W hW, hmv F5 W hW, hT9 W hW, by rw [HZZ.out]; exact Ty.Sl_nil _ _, hmv F6 W hW, hmv F7 W hW, by rw [HMM.out]; exact Ty.Sl_nil _ _⟩⟩, hWr.frIn hF9 (fun k e => by rw [e]; omega)⟩
end Go.Proofs.YtcepdjlknalmnaaGreatDoor

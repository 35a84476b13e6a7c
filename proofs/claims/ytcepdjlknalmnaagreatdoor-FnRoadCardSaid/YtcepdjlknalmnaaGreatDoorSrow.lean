/- Laws of this claim. -/
import Derived.Test.YtcepdjlknalmnaaGreatDoorImc
import Derived.Laws.Tables
set_option linter.unusedSimpArgs false
set_option linter.unusedVariables false
namespace Go.Proofs.YtcepdjlknalmnaaGreatDoor
open Tryz
open Go.RowKit
attribute [local go_sem ↓] Go.wp_at_zero Go.wp_at_succ
set_option maxRecDepth 100000 in
set_option maxHeartbeats 4000000 in
theorem qQo (x : Med) (b : Nat) (v0 v1 v2 v3 v4 v5 v6 v7 : Value) (w : World) (hc : ∀ j u, ([.string x.name, .int .i64 x.port, v0, v1, v2, v3, v4, v5, v6, v7] : List Value)[j]? = some u -> w.cell? ⟨b, j, none⟩ = some u) (m : PMedAt w x v0 v1 v2 v3 v4 v5 v6 v7)
 (hl : x.protos.length <= 2147483647 /\ x.fmts.length <= 2147483647 /\ x.bws.length <= 2147483647 /\ x.atts.length <= 2147483647) :
 Calls prog 76 #[.pointer (some ⟨b, 0, none⟩)] w fun e w' => ∃ u0 u1 u2 u3 u4 u5 u6 u7, e = .returned (.agg #[.string x.name, .int .i64 x.port, u0, u1, u2, u3, u4, u5, u6, u7]) /\ qAq (fun W => MedAt W x u0 u1 u2 u3 u4 u5 u6 u7) w' (fun k => w.heap.size <= k) /\ Nw w w' := by
 have HS0 : Hid (∀ w', Nw w w' -> (w'.cell? ⟨b, 0, none⟩ = some (.string x.name) /\ w'.cell? ⟨b, 1, none⟩ = some (.int .i64 x.port) /\ w'.cell? ⟨b, 2, none⟩ = some (v0) /\ w'.cell? ⟨b, 3, none⟩ = some (v1) /\ w'.cell? ⟨b, 4, none⟩ = some (v2) /\ w'.cell? ⟨b, 5, none⟩ = some (v3) /\ w'.cell? ⟨b, 6, none⟩ = some (v4) /\ w'.cell? ⟨b, 7, none⟩ = some (v5) /\ w'.cell? ⟨b, 8, none⟩ = some (v6) /\ w'.cell? ⟨b, 9, none⟩ = some (v7))) := Lib.hid (fun w' hn => ⟨hn.cell (hc 0 _ rfl), hn.cell (hc 1 _ rfl), hn.cell (hc 2 _ rfl), hn.cell (hc 3 _ rfl), hn.cell (hc 4 _ rfl), hn.cell (hc 5 _ rfl), hn.cell (hc 6 _ rfl), hn.cell (hc 7 _ rfl), hn.cell (hc 8 _ rfl), hn.cell (hc 9 _ rfl)⟩)
 obtain ⟨w0, hw0⟩ : ∃ w0, w0 = w.alloc (.cells #[.string ⟨#[]⟩, .int .i64 0, .slice none 0 0, .slice none 0 0, .slice none 0 0, .slice none 0 0, .slice none 0 0, .slice none 0 0, .slice none 0 0, .slice none 0 0] 84) := ⟨_, rfl⟩
 obtain ⟨r, hr⟩ : ∃ r, r = w.heap.size := ⟨_, rfl⟩
 have q0 : Nw w w0 := by rw [hw0]; exact (Nw.refl w).alloc _
 have hR0 : Blk w0 r [.string ⟨#[]⟩, .int .i64 0, .slice none 0 0, .slice none 0 0, .slice none 0 0, .slice none 0 0, .slice none 0 0, .slice none 0 0, .slice none 0 0, .slice none 0 0] 84 := by rw [hw0, hr]; exact Blk.made w _ 84
 go_enter func76, ntmps76
 go_upto_region 1 with fail
 rw [<- hw0, <- hr]
 have HR := Lib.hid hr
 clear hw0 hr hc
 have hrlt := hR0.lt
 have hrw : w.heap.size <= r := Nat.le_of_eq HR.out.symm
 go_region_held3 (fun w' => w'.cell? ⟨b, 0, none⟩ = some (.string x.name) /\ w'.cell? ⟨b, 1, none⟩ = some (.int .i64 x.port) /\ w'.cell? ⟨b, 2, none⟩ = some (v0) /\ w'.cell? ⟨b, 3, none⟩ = some (v1) /\ w'.cell? ⟨b, 4, none⟩ = some (v2) /\ w'.cell? ⟨b, 5, none⟩ = some (v3) /\ w'.cell? ⟨b, 6, none⟩ = some (v4) /\ w'.cell? ⟨b, 7, none⟩ = some (v5) /\ w'.cell? ⟨b, 8, none⟩ = some (v6) /\ w'.cell? ⟨b, 9, none⟩ = some (v7)) (first | (with_reducible exact HS0.out _ (Nw.drew q0)) | (with_reducible exact HS0.out _ hq0) | (with_reducible exact HS0.out _ hq1) | (with_reducible exact HS0.out _ hq2) | (with_reducible exact HS0.out _ hq3) | (with_reducible exact HS0.out _ hq4) | (with_reducible exact HS0.out _ hq5) | (with_reducible exact HS0.out _ hq6) | (with_reducible exact HS0.out _ hq7) | (with_reducible exact HS0.out _ ((((((((((hq7.setCell (p := ⟨r, 0, none⟩) hrw _).setCell (p := ⟨r, 1, none⟩) hrw _).setCell (p := ⟨r, 2, none⟩) hrw _).setCell (p := ⟨r, 3, none⟩) hrw _).setCell (p := ⟨r, 4, none⟩) hrw _).setCell (p := ⟨r, 5, none⟩) hrw _).setCell (p := ⟨r, 6, none⟩) hrw _).setCell (p := ⟨r, 7, none⟩) hrw _).setCell (p := ⟨r, 8, none⟩) hrw _).setCell (p := ⟨r, 9, none⟩) hrw _))) (first
  | (go_at_call 123; (with_reducible refine (qGn x.ports v0 _ ?_).mono ?_); (focus exact Ty.Pt_loc (Nw.block (w := w) (Nw.drew q0)) m.ports); rintro e z0 ⟨t0, rfl, hs0, hn0⟩; have hp0 : Nw w0 z0 := Nw.trans ((Nw.refl w0).drew) hn0; have hq0 : Nw w z0 := q0.trans hp0; obtain ⟨A0, n0, rfl⟩ := Ty.Sl_form hs0.now)
  | (go_at_call 124; (with_reducible refine (qF1 x.protos v1 _ ?_ hl.1).mono ?_); (focus exact Ty.Sl_loc (Nw.block (w := w) hq0) m.protos); rintro e z1 ⟨t1, rfl, hs1, hn1⟩; have hp1 : Nw w0 z1 := Nw.trans hp0 hn1; have hq1 : Nw w z1 := q0.trans hp1; obtain ⟨A1, n1, rfl⟩ := Ty.Sl_form hs1.now)
  | (go_at_call 124; (with_reducible refine (qF1 x.fmts v2 _ ?_ hl.2.1).mono ?_); (focus exact Ty.Sl_loc (Nw.block (w := w) hq1) m.fmts); rintro e z2 ⟨t2, rfl, hs2, hn2⟩; have hp2 : Nw w0 z2 := Nw.trans hp1 hn2; have hq2 : Nw w z2 := q0.trans hp2; obtain ⟨A2, n2, rfl⟩ := Ty.Sl_form hs2.now)
  | (go_at_call 67; (with_reducible refine (qIm x.title v3 _ ?_).mono ?_); (focus exact Ty.Pt_loc (Nw.block (w := w) hq2) m.title); rintro e z3 ⟨t3, rfl, hs3, hn3⟩; have hp3 : Nw w0 z3 := Nw.trans hp2 hn3; have hq3 : Nw w z3 := q0.trans hp3; obtain ⟨A3, n3, rfl⟩ := Ty.Sl_form hs3.now)
  | (go_at_call 71; (with_reducible refine (qFu x.conn v4 _ ?_).mono ?_); (focus exact Ty.Pt_loc (Nw.block (w := w) hq3) m.conn); rintro e z4 ⟨t4, rfl, hs4, hn4⟩; have hp4 : Nw w0 z4 := Nw.trans hp3 hn4; have hq4 : Nw w z4 := q0.trans hp4; obtain ⟨A4, n4, rfl⟩ := Ty.Sl_form hs4.now)
  | (go_at_call 72; (with_reducible refine (qGe x.bws v5 _ ?_ hl.2.2.1).mono ?_); (focus exact Ty.Sl_loc (Nw.block (w := w) hq4) m.bws); rintro e z5 ⟨t5, rfl, hs5, hn5⟩; have hp5 : Nw w0 z5 := Nw.trans hp4 hn5; have hq5 : Nw w z5 := q0.trans hp5; obtain ⟨A5, n5, rfl⟩ := Ty.Sl_form hs5.now)
  | (go_at_call 73; (with_reducible refine (qIn x.key v6 _ ?_).mono ?_); (focus exact Ty.Pt_loc (Nw.block (w := w) hq5) m.key); rintro e z6 ⟨t6, rfl, hs6, hn6⟩; have hp6 : Nw w0 z6 := Nw.trans hp5 hn6; have hq6 : Nw w z6 := q0.trans hp6; obtain ⟨A6, n6, rfl⟩ := Ty.Sl_form hs6.now)
  | (go_at_call 74; (with_reducible refine (qGd x.atts v7 _ ?_ hl.2.2.2).mono ?_); (focus exact Ty.Sl_loc (Nw.block (w := w) hq6) m.atts); rintro e z7 ⟨t7, rfl, hs7, hn7⟩; have hp7 : Nw w0 z7 := Nw.trans hp6 hn7; have hq7 : Nw w z7 := q0.trans hp7; obtain ⟨A7, n7, rfl⟩ := Ty.Sl_form hs7.now; have hR7 := hR0.nw hp7; have y0 := hR7.cell 0 rfl; have f0 := hR7.fz 0; have y1 := hR7.cell 1 rfl; have f1 := hR7.fz 1; have y2 := hR7.cell 2 rfl; have f2 := hR7.fz 2; have y3 := hR7.cell 3 rfl; have f3 := hR7.fz 3; have y4 := hR7.cell 4 rfl; have f4 := hR7.fz 4; have y5 := hR7.cell 5 rfl; have f5 := hR7.fz 5; have y6 := hR7.cell 6 rfl; have f6 := hR7.fz 6; have y7 := hR7.cell 7 rfl; have f7 := hR7.fz 7; have y8 := hR7.cell 8 rfl; have f8 := hR7.fz 8; have y9 := hR7.cell 9 rfl; have f9 := hR7.fz 9))
 obtain ⟨w9, hw9⟩ : ∃ w9, w9 = (((((((((z7.setCell ⟨r, 0, none⟩ (.string x.name)).setCell ⟨r, 1, none⟩ (.int .i64 x.port)).setCell ⟨r, 2, none⟩ (.slice A0 x.ports.length n0)).setCell ⟨r, 3, none⟩ (.slice A1 x.protos.length n1)).setCell ⟨r, 4, none⟩ (.slice A2 x.fmts.length n2)).setCell ⟨r, 5, none⟩ (.slice A3 x.title.length n3)).setCell ⟨r, 6, none⟩ (.slice A4 x.conn.length n4)).setCell ⟨r, 7, none⟩ (.slice A5 x.bws.length n5)).setCell ⟨r, 8, none⟩ (.slice A6 x.key.length n6)).setCell ⟨r, 9, none⟩ (.slice A7 x.atts.length n7) := ⟨_, rfl⟩
 have hR9 : Blk w9 r [.string x.name, .int .i64 x.port, .slice A0 x.ports.length n0, .slice A1 x.protos.length n1, .slice A2 x.fmts.length n2, .slice A3 x.title.length n3, .slice A4 x.conn.length n4, .slice A5 x.bws.length n5, .slice A6 x.key.length n6, .slice A7 x.atts.length n7] 84 := by
  rw [hw9]; exact (((((((((hR7.set 0 _).set 1 _).set 2 _).set 3 _).set 4 _).set 5 _).set 6 _).set 7 _).set 8 _).set 9 _
 have hF9 : Fr (fun k => k = r) z7 w9 := by
  rw [hw9]; exact (((((((((Fr.self (p := ⟨r, 0, none⟩) _).put _).put _).put _).put _).put _).put _).put _).put _).put _
 rw [<- hw9]
 clear hw9
 have b0 := hR9.cell 0 rfl
 have b1 := hR9.cell 1 rfl
 have b2 := hR9.cell 2 rfl
 have b3 := hR9.cell 3 rfl
 have b4 := hR9.cell 4 rfl
 have b5 := hR9.cell 5 rfl
 have b6 := hR9.cell 6 rfl
 have b7 := hR9.cell 7 rfl
 have b8 := hR9.cell 8 rfl
 have b9 := hR9.cell 9 rfl
 go_wp2
 have sw : w.heap.size <= w0.heap.size := q0.size
 have ch7 : Nw z7 z7 := Nw.refl _
 have ch6 : Nw z6 z7 := hn7.trans ch7
 have ch5 : Nw z5 z7 := hn6.trans ch6
 have ch4 : Nw z4 z7 := hn5.trans ch5
 have ch3 : Nw z3 z7 := hn4.trans ch4
 have ch2 : Nw z2 z7 := hn3.trans ch3
 have ch1 : Nw z1 z7 := hn2.trans ch2
 have ch0 : Nw z0 z7 := hn1.trans ch1
 have sz0 : w0.heap.size <= z0.heap.size := hp0.size
 have F0 := (hs0.fr ((ch0.fr (fun k => k = r)).trans (hF9.mono (fun k _ e => .inl e))) (fun k hk hok e => by have hok2 : w0.heap.size <= k := hok; omega)).mono (ok' := fun k => w.heap.size <= k) (fun k _ e => by have hok2 : w0.heap.size <= k := e.1; omega)
 have sz1 : w0.heap.size <= z1.heap.size := hp1.size
 have F1 := (hs1.fr ((ch1.fr (fun k => k = r)).trans (hF9.mono (fun k _ e => .inl e))) (fun k hk hok e => by have hok2 : z0.heap.size <= k := hok; omega)).mono (ok' := fun k => w.heap.size <= k) (fun k _ e => by have hok2 : z0.heap.size <= k := e.1; omega)
 have sz2 : w0.heap.size <= z2.heap.size := hp2.size
 have F2 := (hs2.fr ((ch2.fr (fun k => k = r)).trans (hF9.mono (fun k _ e => .inl e))) (fun k hk hok e => by have hok2 : z1.heap.size <= k := hok; omega)).mono (ok' := fun k => w.heap.size <= k) (fun k _ e => by have hok2 : z1.heap.size <= k := e.1; omega)
 have sz3 : w0.heap.size <= z3.heap.size := hp3.size
 have F3 := (hs3.fr ((ch3.fr (fun k => k = r)).trans (hF9.mono (fun k _ e => .inl e))) (fun k hk hok e => by have hok2 : z2.heap.size <= k := hok; omega)).mono (ok' := fun k => w.heap.size <= k) (fun k _ e => by have hok2 : z2.heap.size <= k := e.1; omega)
 have sz4 : w0.heap.size <= z4.heap.size := hp4.size
 have F4 := (hs4.fr ((ch4.fr (fun k => k = r)).trans (hF9.mono (fun k _ e => .inl e))) (fun k hk hok e => by have hok2 : z3.heap.size <= k := hok; omega)).mono (ok' := fun k => w.heap.size <= k) (fun k _ e => by have hok2 : z3.heap.size <= k := e.1; omega)
 have sz5 : w0.heap.size <= z5.heap.size := hp5.size
 have F5 := (hs5.fr ((ch5.fr (fun k => k = r)).trans (hF9.mono (fun k _ e => .inl e))) (fun k hk hok e => by have hok2 : z4.heap.size <= k := hok; omega)).mono (ok' := fun k => w.heap.size <= k) (fun k _ e => by have hok2 : z4.heap.size <= k := e.1; omega)
 have sz6 : w0.heap.size <= z6.heap.size := hp6.size
 have F6 := (hs6.fr ((ch6.fr (fun k => k = r)).trans (hF9.mono (fun k _ e => .inl e))) (fun k hk hok e => by have hok2 : z5.heap.size <= k := hok; omega)).mono (ok' := fun k => w.heap.size <= k) (fun k _ e => by have hok2 : z5.heap.size <= k := e.1; omega)
 have sz7 : w0.heap.size <= z7.heap.size := hp7.size
 have F7 := (hs7.fr ((ch7.fr (fun k => k = r)).trans (hF9.mono (fun k _ e => .inl e))) (fun k hk hok e => by have hok2 : z6.heap.size <= k := hok; omega)).mono (ok' := fun k => w.heap.size <= k) (fun k _ e => by have hok2 : z6.heap.size <= k := e.1; omega)
 refine bodyPost_ret (results_cell_row (fn := f76) rfl _ _ r 84 _ (0, 0) _ rfl hR9 underlying84 rfl (by kernel_rfl)) rfl ?_
 exact ⟨_, _, _, _, _, _, _, _, rfl, fun W hW => ⟨m.name, m.port, F0 W hW, F1 W hW, F2 W hW, F3 W hW, F4 W hW, F5 W hW, F6 W hW, F7 W hW⟩, hq7.frIn hF9 (fun k e => by rw [e]; exact hrw)⟩
end Go.Proofs.YtcepdjlknalmnaaGreatDoor
/- Storing a whole struct of nineteen cells, as one step. -/
namespace Go.Proofs.YtcepdjlknalmnaaGreatDoor
open Tryz
open Go.RowKit
def qHb (w : World) (g n : Nat) (t : TypeId) : Bool := match w.heap[g]? with
 | some (.cells c t' fr) => c.size == n && t' == t && fr == (0, 0)
 | _ => false
theorem qEu {w : World} {g : Nat} {l : List Value} {t : TypeId} (h : Blk w g l t) {n : Nat} (hn : l.length = n) : qHb w g n t = true := by
 unfold Blk at h
 simp [qHb, h, hn]
theorem qHc (w : World) (cs : Array Value) (t : TypeId) (n : Nat) (hn : cs.size = n) : qHb (w.alloc (.cells cs t)) w.heap.size n t = true := by
 exact qEu (l := cs.toList) (Blk.made w cs.toList t) (by simpa using hn)
theorem qHd (w : World) (g n : Nat) (t : TypeId) : qHb w.drew g n t = qHb w g n t := rfl
def qIo : Value -> Nat
 | .pointer (some a) => a.block
 | _ => 0
def cellsOf : Value -> Array Value
 | .agg cs => cs
 | _ => #[]
def qHe (w : World) (n : Nat) (t : TypeId) : Value -> Value -> Bool
 | .pointer (some ⟨g, 0, none⟩), .agg cs => qHb w g n t && cs.size == n && cs.all (·.oneCell')
 | _, _ => false
theorem qB5 (g o : Nat) (x : Option Nat) : qIo (.pointer (some ⟨g, o, x⟩)) = g := rfl
theorem qCv (cs : Array Value) : cellsOf (.agg cs) = cs := rfl
theorem qF2 (i j : Tmp) (ty : TypeId) (pos : String) (after : Array Edge) (a : Act) (w : World) (K : Act -> World -> Prop) (Q : Exit -> Act -> World -> Prop)
 (h : qHe w 19 33 (a.eval (.tmp i)) (a.eval (.tmp j)) = true) :
 Oper.wp prog ⟨none, .store 33 (.tmp i) (.tmp j), ty, pos, after, none⟩ a w K Q = K a (w.setRow (qIo (a.eval (.tmp i))) (cellsOf (a.eval (.tmp j)))) := by
 unfold qHe at h
 split at h
 · rename_i g cs h1 h2
   simp only [Bool.and_eq_true, beq_iff_eq] at h
   obtain ⟨⟨hr, hs⟩, hc⟩ := h
   unfold qHb at hr
   split at hr
   · rename_i c t' fr hg
     simp only [Bool.and_eq_true, beq_iff_eq] at hr
     obtain ⟨⟨h3, rfl⟩, rfl⟩ := hr
     have hi : (prog.info? 33).map (·.size) = some cs.size := by rw [hs]; kernel_rfl
     unfold Oper.wp execOp
     simp only [h1, h2, Instr.storeAt, Instr.sureAddr, Sem.run_bind, Sem.run_pure, Result.andThen_ok, run_storeVar_row w g 33 33 c cs hg hi (by omega) hc, qB5, qCv]
     rfl
   cases hr
 cases h
theorem qFb (w : World) (n : Nat) (t : TypeId) (g : Nat) (cs : Array Value) : qHe w n t (.pointer (some ⟨g, 0, none⟩)) (.agg cs) = (qHb w g n t && cs.size == n && cs.all (·.oneCell')) := rfl
theorem qG1 (k : IntKind) (n : Int) : (Value.int k n).oneCell' = true := rfl
theorem qD6 (s) : (Value.string s).oneCell' = true := rfl
theorem qF3 (A : Option Addr) (n c : Nat) : (Value.slice A n c).oneCell' = true := rfl
theorem qBp {w : World} {g : Nat} {l l2 : List Value} {t : TypeId} (h : Blk w g l t) : Blk (w.setRow g l2.toArray) g l2 t := by
 unfold Blk World.setRow at *
 simp [Array.getElem?_modify, h]
theorem qEv (w : World) (g : Nat) (cs : Array Value) : Fr (fun k => k = g) w (w.setRow g cs) := ⟨rfl, rfl, rfl, by simp, fun i hi hs => by
 unfold World.setRow
 rw [Array.getElem?_modify, if_neg (fun e => hs e.symm)]⟩
theorem Nw.setRow {w0 z : World} {g : Nat} (h : Nw w0 z) (hg : w0.heap.size <= g) (cs : Array Value) : Nw w0 (z.setRow g cs) := h.frIn (qEv z g cs) (fun k e => by rw [e]; exact hg)
theorem Fr.setRow {S : Nat -> Prop} {w0 z : World} {g : Nat} (h : Fr S w0 z) (hg : S g) (cs : Array Value) : Fr S w0 (z.setRow g cs) := h.trans ((qEv z g cs).mono (fun k _ e => .inl (by rw [e]; exact hg)))
theorem Fr.setRowG {w0 z : World} {g : Nat} (h : Fr (fun k => k = g) w0 z) (cs : Array Value) : Fr (fun k => k = g) w0 (z.setRow g cs) := Fr.setRow h rfl cs
end Go.Proofs.YtcepdjlknalmnaaGreatDoor

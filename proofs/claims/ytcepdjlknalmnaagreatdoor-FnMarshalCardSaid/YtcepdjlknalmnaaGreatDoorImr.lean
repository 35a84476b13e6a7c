/- The thin package's Marshal and Size, under the guard. -/
import Derived.Test.YtcepdjlknalmnaaGreatDoorTrm
import Derived.Test.YtcepdjlknalmnaaGreatDoorTos
import Derived.Test.YtcepdjlknalmnaaGreatDoorMss
import Derived.Test.YtcepdjlknalmnaaGreatDoorZwk
import Derived.Laws.ResultCell
namespace Go.Proofs.YtcepdjlknalmnaaGreatDoor
open Go.RowKit
set_option linter.unusedSimpArgs false
set_option linter.unusedVariables false
attribute [local go_sem ↓] Go.wp_at_zero Go.wp_at_succ
theorem buf_conv {o : Oper} {a : Act} {Q : Exit → Act → World → Prop} {K : Act → World → Prop} {W : World} {B : Nat} {v : Value} {l : List UInt8} (src : TypeId) (x : Operand) (ho : o.op = .convert src 9 x) (hx : a.eval x = v) (hb : Buf W B v l) (hs : Tryz.prog.underlying src = some (.slice 5))
 (h : K (a.put o.dst (.string (mk l))) W) : o.wp Tryz.prog a W K Q := by
 unfold Oper.wp execOp
 simp only [ho, hx, Sem.run_bind, Sem.run_pure, Result.andThen_ok, buf_text hb src hs]
 exact h
theorem results_str_tmp {fn : Func} {p u : Tmp} (h : fn.results = #[.cell p 9, .tmp u]) (tmps : Array Value) (w : World) (g : Nat) (s : ByteArray) (v : Value) (hp : tmps.getD p undef = .pointer (some ⟨g, 0, none⟩)) (hu : tmps.getD u undef = v) (hc : w.cell? ⟨g, 0, none⟩ = some (.string s)) :
 (results fn tmps).run Tryz.prog w = .ok (.tuple #[.string s, v]) w := by
 have hp' : tmps[p]?.getD undef = .pointer (some ⟨g, 0, none⟩) := by simpa using hp
 have hu' : tmps[u]?.getD undef = v := by simpa using hu
 simp [results, h, hp', hu', asAddr, go_sem, hc]
theorem ses_mar (x : Ssn) (w : World) (v0 v1 v2 v3 v4 v5 v6 v7 v8 v9 v10 : Value) (m : SsnAt w x v0 v1 v2 v3 v4 v5 v6 v7 v8 v9 v10) (hg : Good x) (hT : Lib.TabBelow Tryz.prog w.heap.size w "internal/strconv.uint64pow10" .u64 Lib.pow10Tab) :
 Calls Tryz.prog 52 #[ssnVal x v0 v1 v2 v3 v4 v5 v6 v7 v8 v9 v10] w fun e w' => ∃ D, e = .returned (.pointer (some ⟨D, 0, none⟩)) ∧ Nw w w' ∧
  (Calls Tryz.prog 53 #[.pointer (some ⟨D, 0, none⟩)] w' fun e w2 => ∃ v, e = .returned (.tuple #[v, .nilIface]) ∧ Buf w2 w'.heap.size v (jt (lns x)) ∧ Nw w' w2) ∧
  Calls Tryz.prog 55 #[.pointer (some ⟨D, 0, none⟩)] w' (SzPost (jt (lns x)).length w') := by
 refine (imp_session x w _ _ _ _ _ _ _ _ _ _ _ m hg.one hg.con hg.lens hg.times hg.media).mono ?_
 rintro e w' ⟨D, rfl, _, ⟨i, u, e, p, c, b, t, z, k, a, md, hD, hm⟩, hn⟩
 have hs := par_size x D w' i u e p c b t z k a md hD hm hg.mar
 have hl := hg.mar.len
 refine ⟨D, rfl, hn, par_marshal x D w' i u e p c b t z k a md hD hm hg.mar (Lib.tabBelow_of_tabIs (hT.on hn).here) (hs.mono ?_), hs⟩
 rintro e w2 ⟨rfl, hn2⟩
 exact ⟨_, rfl, by omega, hn2⟩
def ssnCells (x : Ssn) (v0 v1 v2 v3 v4 v5 v6 v7 v8 v9 v10 : Value) : List Value := [.int .i64 x.ver, .string x.org.user, .int .u64 x.org.id, .int .u64 x.org.ver, .string x.org.net, .string x.org.addr, .string x.org.adr, .string x.name, v0, v1, v2, v3, v4, v5, v6, v7, v8, v9, v10]
theorem enters51 : ∀ args w, (callFunc 51 args).run Tryz.prog w = .ok (.enter 51 args) w := enters_of Tryz.func51 (by kernel_rfl) rfl
theorem enters54 : ∀ args w, (callFunc 54 args).run Tryz.prog w = .ok (.enter 54 args) w := enters_of Tryz.func54 (by kernel_rfl) rfl
set_option maxRecDepth 100000 in
theorem par_51 (x : Ssn) (w : World) (bx tx : Nat) (s0 : ByteArray) (v0 v1 v2 v3 v4 v5 v6 v7 v8 v9 v10 : Value) (hB : Blk w bx (ssnCells x v0 v1 v2 v3 v4 v5 v6 v7 v8 v9 v10) 33) (m : SsnAt w x v0 v1 v2 v3 v4 v5 v6 v7 v8 v9 v10) (hX : Blk w tx [.string s0] 9) (hg : Good x)
 (hT : Lib.TabBelow Tryz.prog w.heap.size w "internal/strconv.uint64pow10" .u64 Lib.pow10Tab) :
 Calls Tryz.prog 51 #[.pointer (some ⟨bx, 0, none⟩), .pointer (some ⟨tx, 0, none⟩)] w fun e w' => ∃ w1, e = .returned (.bool true) ∧ Nw w w1 ∧ w' = w1.setCell ⟨tx, 0, none⟩ (.string (mk (jt (lns x)))) := by
 have HS := Lib.hid (ses_mar x w _ _ _ _ _ _ _ _ _ _ _ m hg hT)
 unfold ssnVal at HS
 unfold ssnCells at hB
 have h1 := eql_nil
 clear m hg hT
 go_enter Tryz.func51, Tryz.ntmps51
 go_upto_region 1 with fail
 apply wp_region_lit
 refine wpList_load_row rfl 33 (.tmp 0) rfl bx rfl 33 _ (0, 0) _ hB Tryz.underlying33 rfl (by kernel_rfl) ?_
 go_upto_region 2 with (first
  | (go_at_call 52; (with_reducible refine HS.out.mono ?_); rintro e w1 ⟨D, rfl, hn1, hc1, _⟩; have HC := Lib.hid hc1; clear hc1)
  | (go_at_call 53; (with_reducible refine HC.out.mono ?_); rintro e w2 ⟨v, rfl, hb2, hn2⟩; obtain ⟨A, n, c, rfl⟩ := hb2.form3; have hX2 := (hX.nw hn1).nw hn2; have x2 := hX2.cell 0 rfl; have z2 := hX2.fz 0))
 go_wp2_with (refine at_list rfl fun K hK => ?_; (with_reducible refine buf_conv 128 (.tmp 11) ?_ ?_ hb2 Tryz.underlying128 ?_); (focus rfl); (focus rfl); refine hK _ _ ?_)
 go_ret
 exact ⟨w2, rfl, hn1.trans hn2, rfl⟩
set_option maxRecDepth 100000 in
theorem par_54 (x : Ssn) (w : World) (bx tx : Nat) (n0 : Int) (v0 v1 v2 v3 v4 v5 v6 v7 v8 v9 v10 : Value) (hB : Blk w bx (ssnCells x v0 v1 v2 v3 v4 v5 v6 v7 v8 v9 v10) 33) (m : SsnAt w x v0 v1 v2 v3 v4 v5 v6 v7 v8 v9 v10) (hX : Blk w tx [.int .i64 n0] 3) (hg : Good x)
 (hT : Lib.TabBelow Tryz.prog w.heap.size w "internal/strconv.uint64pow10" .u64 Lib.pow10Tab) :
 Calls Tryz.prog 54 #[.pointer (some ⟨bx, 0, none⟩), .pointer (some ⟨tx, 0, none⟩)] w fun e w' => ∃ w1, e = .returned (.bool true) ∧ Nw w w1 ∧ w' = w1.setCell ⟨tx, 0, none⟩ (.int .i64 ((jt (lns x)).length : Int)) := by
 have HS := Lib.hid (ses_mar x w _ _ _ _ _ _ _ _ _ _ _ m hg hT)
 unfold ssnVal at HS
 unfold ssnCells at hB
 clear m hg hT
 go_enter Tryz.func54, Tryz.ntmps54
 go_upto_region 1 with fail
 apply wp_region_lit
 refine wpList_load_row rfl 33 (.tmp 0) rfl bx rfl 33 _ (0, 0) _ hB Tryz.underlying33 rfl (by kernel_rfl) ?_
 go_wp2_with (first
  | (go_at_call 52; (with_reducible refine HS.out.mono ?_); rintro e w1 ⟨D, rfl, hn1, _, hc1⟩; have HC := Lib.hid hc1; clear hc1)
  | (go_at_call 55; (with_reducible refine HC.out.mono ?_); rintro e w2 ⟨rfl, hn2⟩; have hX2 := (hX.nw hn1).nw hn2; have x2 := hX2.cell 0 rfl; have z2 := hX2.fz 0))
 go_ret
 exact ⟨w2, rfl, hn1.trans hn2, rfl⟩
theorem guard_put (F : FuncId) (w : World) (bx tx : Nat) (u0 u : Value) (ty : TypeId) (hX : Blk w tx [u0] ty) (hen : ∀ args w, (callFunc F args).run Tryz.prog w = .ok (.enter F args) w)
 (h : Calls Tryz.prog F #[.pointer (some ⟨bx, 0, none⟩), .pointer (some ⟨tx, 0, none⟩)] (w.alloc (.cells #[.bool false] 4)) fun e w' => ∃ w1, e = .returned (.bool true) ∧ Nw (w.alloc (.cells #[.bool false] 4)) w1 ∧ w' = w1.setCell ⟨tx, 0, none⟩ u) :
 Calls Tryz.prog 46 #[.func (.func F) #[] #[.pointer (some ⟨bx, 0, none⟩), .pointer (some ⟨tx, 0, none⟩)]] w fun e w' => e = .returned (.bool true) ∧ Blk w' tx [u] ty ∧ Fr (fun k => k = tx) w w' := by
 have hlt := hX.lt
 have hne : ¬ w.heap.size = tx := by omega
 have bO := Blk.made w [.bool false] 4
 refine (par_tryG F _ w (fun b w1 => b = true ∧ ∃ wz, Nw (w.alloc (.cells #[.bool false] 4)) wz ∧ w1 = wz.setCell ⟨tx, 0, none⟩ u) hen (h.mono ?_)).mono ?_
 · rintro e w' ⟨w1, rfl, hn, rfl⟩
   have hO := (bO.nw hn).other (p := ⟨tx, 0, none⟩) hne u
   exact ⟨true, rfl, ⟨rfl, w1, hn, rfl⟩, hO.cell 0 rfl, hO.fz 0⟩
 · rintro e w' ⟨b, w1, rfl, ⟨rfl, wz, hn, rfl⟩, rfl⟩
   have hY : Blk (wz.setCell ⟨tx, 0, none⟩ u) tx [u] ty := ((hX.alloc _).nw hn).set 0 u
   have f1 : Fr (fun k => k = tx) w wz := (((Nw.refl w).alloc _).trans hn).fr _
   exact ⟨rfl, hY.other (p := ⟨w.heap.size, 0, none⟩) (fun e => hne e.symm) _, (f1.setCell (.inl rfl) _).setCell (.inr (Nat.le_refl _)) _⟩
set_option maxRecDepth 100000 in
theorem imp_marshal (x : Ssn) (w : World) (v0 v1 v2 v3 v4 v5 v6 v7 v8 v9 v10 : Value) (m : SsnAt w x v0 v1 v2 v3 v4 v5 v6 v7 v8 v9 v10) (hg : Good x) (hT : Lib.TabIs Tryz.prog w "internal/strconv.uint64pow10" .u64 Lib.pow10Tab) :
 Calls Tryz.prog 17 #[ssnVal x v0 v1 v2 v3 v4 v5 v6 v7 v8 v9 v10] w fun e w' => e = .returned (.tuple #[.string (mk (jt (lns x))), .bool true]) ∧ Nw w w' := by
 obtain ⟨bx, hbx⟩ : ∃ g, g = w.heap.size := ⟨_, rfl⟩
 obtain ⟨tx, htx⟩ : ∃ g, g = w.heap.size + 1 := ⟨_, rfl⟩
 obtain ⟨w2, hw2⟩ : ∃ z, z = (w.alloc (.cells (ssnCells x v0 v1 v2 v3 v4 v5 v6 v7 v8 v9 v10).toArray 33)).alloc (.cells #[.string ⟨#[]⟩] 9) := ⟨_, rfl⟩
 have q2 : Nw w w2 := by rw [hw2]; exact ((Nw.refl w).alloc _).alloc _
 have hB : Blk w2 bx (ssnCells x v0 v1 v2 v3 v4 v5 v6 v7 v8 v9 v10) 33 := by rw [hw2, hbx]; exact (Blk.made w _ 33).alloc _
 have hX : Blk w2 tx [.string ⟨#[]⟩] 9 := by
  have := Blk.made (w.alloc (.cells (ssnCells x v0 v1 v2 v3 v4 v5 v6 v7 v8 v9 v10).toArray 33)) [.string ⟨#[]⟩] 9
  rw [hw2, htx]; simpa using this
 have qz : Nw w (w2.alloc (.cells #[.bool false] 4)) := q2.alloc _
 have HC := Lib.hid (guard_put 51 w2 bx tx _ (.string (mk (jt (lns x)))) 9 hX enters51 (par_51 x _ bx tx _ _ _ _ _ _ _ _ _ _ _ _ (hB.alloc _) (m.loc (Nw.block qz)) (hX.alloc _) hg (Lib.tabBelow_of_tabIs ((Lib.tabBelow_of_tabIs hT).on qz).here)))
 have hmf : ∀ (fn : Fn) (first cap : Array Value) (w : World), (Instr.makeFunc fn first cap).run Tryz.prog w = .ok (.func fn first cap) w := fun _ _ _ _ => rfl
 have hle : w.heap.size ≤ tx := by omega
 unfold ssnCells at hw2
 unfold ssnVal
 obtain ⟨A0, n0, rfl⟩ := Ty.Sl_form m.info
 obtain ⟨A1, n1, rfl⟩ := Ty.Sl_form m.uri
 obtain ⟨A2, n2, rfl⟩ := Ty.Sl_form m.email
 obtain ⟨A3, n3, rfl⟩ := Ty.Sl_form m.phone
 obtain ⟨A4, n4, rfl⟩ := Ty.Sl_form m.conn
 obtain ⟨A5, n5, rfl⟩ := Ty.Sl_form m.bws
 obtain ⟨A6, n6, rfl⟩ := Ty.Sl_form m.times
 obtain ⟨A7, n7, rfl⟩ := Ty.Sl_form m.zones
 obtain ⟨A8, n8, rfl⟩ := Ty.Sl_form m.key
 obtain ⟨A9, n9, rfl⟩ := Ty.Sl_form m.atts
 obtain ⟨A10, n10, rfl⟩ := Ty.Sl_form m.media
 have HQ := Lib.hid q2
 clear m qz hg hT hB hX q2
 go_enter Tryz.func17, Tryz.ntmps17
 go_upto_region 1 with fail
 rw [← hw2, ← htx, ← hbx]
 clear hw2 htx hbx
 go_wp2_with (go_at_call 46; (with_reducible refine HC.out.mono ?_); rintro e w5 ⟨rfl, hX5, hF5⟩; have x5 := hX5.cell 0 rfl; have z5 := hX5.fz 0)
 refine bodyPost_ret (results_str_tmp (fn := Tryz.f17) rfl _ _ tx (mk (jt (lns x))) (.bool true) rfl rfl ((hX5.set 0 _).cell 0 rfl)) rfl ?_
 exact ⟨rfl, (HQ.out.frIn hF5 (fun k e => by rw [e]; exact hle)).setCell hle _⟩
set_option maxRecDepth 100000 in
theorem imp_size (x : Ssn) (w : World) (v0 v1 v2 v3 v4 v5 v6 v7 v8 v9 v10 : Value) (m : SsnAt w x v0 v1 v2 v3 v4 v5 v6 v7 v8 v9 v10) (hg : Good x) (hT : Lib.TabIs Tryz.prog w "internal/strconv.uint64pow10" .u64 Lib.pow10Tab) :
 Calls Tryz.prog 18 #[ssnVal x v0 v1 v2 v3 v4 v5 v6 v7 v8 v9 v10] w fun e w' => e = .returned (.int .i64 ((jt (lns x)).length : Int)) ∧ Nw w w' := by
 obtain ⟨bx, hbx⟩ : ∃ g, g = w.heap.size := ⟨_, rfl⟩
 obtain ⟨tx, htx⟩ : ∃ g, g = w.heap.size + 1 := ⟨_, rfl⟩
 obtain ⟨w2, hw2⟩ : ∃ z, z = (w.alloc (.cells (ssnCells x v0 v1 v2 v3 v4 v5 v6 v7 v8 v9 v10).toArray 33)).alloc (.cells #[.int .i64 0] 3) := ⟨_, rfl⟩
 have q2 : Nw w w2 := by rw [hw2]; exact ((Nw.refl w).alloc _).alloc _
 have hB : Blk w2 bx (ssnCells x v0 v1 v2 v3 v4 v5 v6 v7 v8 v9 v10) 33 := by rw [hw2, hbx]; exact (Blk.made w _ 33).alloc _
 have hX : Blk w2 tx [.int .i64 0] 3 := by
  have := Blk.made (w.alloc (.cells (ssnCells x v0 v1 v2 v3 v4 v5 v6 v7 v8 v9 v10).toArray 33)) [.int .i64 0] 3
  rw [hw2, htx]; simpa using this
 have qz : Nw w (w2.alloc (.cells #[.bool false] 4)) := q2.alloc _
 have HC := Lib.hid (guard_put 54 w2 bx tx _ (.int .i64 ((jt (lns x)).length : Int)) 3 hX enters54 (par_54 x _ bx tx _ _ _ _ _ _ _ _ _ _ _ _ (hB.alloc _) (m.loc (Nw.block qz)) (hX.alloc _) hg (Lib.tabBelow_of_tabIs ((Lib.tabBelow_of_tabIs hT).on qz).here)))
 have hmf : ∀ (fn : Fn) (first cap : Array Value) (w : World), (Instr.makeFunc fn first cap).run Tryz.prog w = .ok (.func fn first cap) w := fun _ _ _ _ => rfl
 have hle : w.heap.size ≤ tx := by omega
 unfold ssnCells at hw2
 unfold ssnVal
 obtain ⟨A0, n0, rfl⟩ := Ty.Sl_form m.info
 obtain ⟨A1, n1, rfl⟩ := Ty.Sl_form m.uri
 obtain ⟨A2, n2, rfl⟩ := Ty.Sl_form m.email
 obtain ⟨A3, n3, rfl⟩ := Ty.Sl_form m.phone
 obtain ⟨A4, n4, rfl⟩ := Ty.Sl_form m.conn
 obtain ⟨A5, n5, rfl⟩ := Ty.Sl_form m.bws
 obtain ⟨A6, n6, rfl⟩ := Ty.Sl_form m.times
 obtain ⟨A7, n7, rfl⟩ := Ty.Sl_form m.zones
 obtain ⟨A8, n8, rfl⟩ := Ty.Sl_form m.key
 obtain ⟨A9, n9, rfl⟩ := Ty.Sl_form m.atts
 obtain ⟨A10, n10, rfl⟩ := Ty.Sl_form m.media
 have HQ := Lib.hid q2
 clear m qz hg hT hB hX q2
 go_enter Tryz.func18, Tryz.ntmps18
 go_upto_region 1 with fail
 rw [← hw2, ← htx, ← hbx]
 clear hw2 htx hbx
 go_wp2_with (go_at_call 46; (with_reducible refine HC.out.mono ?_); rintro e w5 ⟨rfl, hX5, hF5⟩; have x5 := hX5.cell 0 rfl; have z5 := hX5.fz 0)
 refine bodyPost_ret (v := .int .i64 ((jt (lns x)).length : Int)) (results_int (fn := Tryz.f18) rfl _ _ tx _ rfl ((hX5.set 0 _).cell 0 rfl)) rfl ?_
 exact ⟨rfl, (HQ.out.frIn hF5 (fun k e => by rw [e]; exact hle)).setCell hle _⟩
end Go.Proofs.YtcepdjlknalmnaaGreatDoor

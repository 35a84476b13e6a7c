/- The law's own session: what laws.session makes of a session. Written by a small program of this claim's own (genses). -/
import Derived.Test.YtcepdjlknalmnaaGreatDoorZst
import Derived.Test.YtcepdjlknalmnaaGreatDoorRepC
import Derived.Great.BuildSlice
import Derived.Test.YtcepdjlknalmnaaGreatDoorSrow
set_option linter.unusedSimpArgs false
set_option linter.unusedVariables false
namespace Go.Proofs.YtcepdjlknalmnaaGreatDoor
open Go.RowKit
theorem qJj (i j : Tmp) (ty : TypeId) (pos : String) (after : Array Edge) (a : Act) (w : World) (K : Act -> World -> Prop) (Q : Exit -> Act -> World -> Prop)
 (h : qHe w 19 43 (a.eval (.tmp i)) (a.eval (.tmp j)) = true) :
 Oper.wp Tryz.prog ⟨none, .store 43 (.tmp i) (.tmp j), ty, pos, after, none⟩ a w K Q = K a (w.setRow (qIo (a.eval (.tmp i))) (cellsOf (a.eval (.tmp j)))) := by
 unfold qHe at h
 split at h
 · rename_i g cs h1 h2
   simp only [Bool.and_eq_true, beq_iff_eq] at h
   obtain ⟨⟨hr, hs⟩, hc⟩ := h
   unfold qHb at hr
   split at hr
   · rename_i c t' fr hg
     simp only [Bool.and_eq_true, beq_iff_eq] at hr
     obtain ⟨⟨h3, rfl⟩, rfl⟩ := hr
     have hi : (Tryz.prog.info? 43).map (·.size) = some cs.size := by rw [hs]; kernel_rfl
     unfold Oper.wp execOp
     simp only [h1, h2, Instr.storeAt, Instr.sureAddr, Sem.run_bind, Sem.run_pure, Result.andThen_ok, run_storeVar_row w g 43 43 c cs hg hi (by omega) hc, qB5, qCv]
     rfl
   cases hr
 cases h
end Go.Proofs.YtcepdjlknalmnaaGreatDoor
namespace Go.Proofs.YtcepdjlknalmnaaGreatDoor
open Tryz
open List (mem_cons not_mem_nil length_cons length_nil)
open Lib (hid)
open Go.RowKit
attribute [local go_sem ↓] Go.wp_at_zero Go.wp_at_succ qJj
attribute [local go_sem] qFb qHc qHd qG1 qD6 qF3 qB5 qCv
theorem qHf {Q : World -> Prop} {c z wc : World} {g4 n0 n : Nat} (h : qAq Q z (fun k => k < n0 ∨ c.heap.size <= k)) (hf : Fr (fun k => k = g4) z wc) (h0 : n0 <= g4) (hc : n <= c.heap.size) (hg : g4 < c.heap.size ∨ z.heap.size <= g4) : qAq Q wc (fun k => (k < n0 ∨ n <= k) /\ ¬ k = g4) :=
 (h.fr hf (fun k hk hok e => by omega)).mono (fun k _ e => by have := e.1; omega)
theorem qAo.reok {α : Type} {T : Ty α} {w : World} {B e : Nat} {v : Value} {xs : List α} {ok : Nat -> Prop} (hT : ∀ W W' x cs, T.rel W x cs -> T.rel W' x cs) (h : qAo T w B e v xs ok) (ok' : Nat -> Prop) : qAo T w B e v xs ok' := by
 obtain ⟨rows, hr, hl, hf⟩ := h
 exact ⟨rows, hr, hl, fun i x r hx hr' W _ => hT _ _ _ _ (hf i x r hx hr').now⟩
theorem qD1 {α : Type} {T : Ty α} {w : World} {B e n0 : Nat} {v : Value} {xs : List α} {ok : Nat -> Prop} (h : qAo T w B e v xs ok) (hm : xs.length <= 140737488355328) (hok : ∀ k, ok k -> k < n0 ∨ B <= k) : qAq (fun W => T.Sl W xs v) w (fun k => k < n0 ∨ B <= k) :=
 (qAo.foot h hm).mono (fun k _ e => e.elim (hok k) .inr)
theorem sl_in {α : Type} {T : Ty α} {w : World} {xs : List α} {v : Value} (h : T.Sl w xs v) : qAq (fun W => T.Sl W xs v) w (fun k => k < w.heap.size) := fun W hW => Ty.Sl_loc (fun k hk => hW k hk hk) h
theorem Blk.setP1 {w : World} {g : Nat} {l : List Value} {t : TypeId} (h : Blk w g l t) (j : Nat) (u : Value) (l2 : List Value) (e : l.set j u = l2) : Blk (w.setCell ⟨g, j, none⟩ u) g l2 t := e ▸ h.set j u
theorem tim1 (a b : Int) (A : Option Addr) (n c : Nat) : ([.int .u64 a, .int .u64 b, .slice A n c] : List Value).length = 3 /\ ∀ u ∈ ([.int .u64 a, .int .u64 b, .slice A n c] : List Value), u.oneCell' = true := by
 refine ⟨rfl, fun u hu => ?_⟩
 simp only [mem_cons, not_mem_nil, or_false] at hu
 rcases hu with rfl | rfl | rfl <;> rfl
theorem rep1 (a b : Int) (A : Option Addr) (n c : Nat) : ([.int .i64 a, .int .i64 b, .slice A n c] : List Value).length = 3 /\ ∀ u ∈ ([.int .i64 a, .int .i64 b, .slice A n c] : List Value), u.oneCell' = true := by
 refine ⟨rfl, fun u hu => ?_⟩
 simp only [mem_cons, not_mem_nil, or_false] at hu
 rcases hu with rfl | rfl | rfl <;> rfl
theorem zon1 (a b : Int) : ([.int .u64 a, .int .i64 b] : List Value).length = 2 /\ ∀ u ∈ ([.int .u64 a, .int .i64 b] : List Value), u.oneCell' = true := by
 refine ⟨rfl, fun u hu => ?_⟩
 simp only [mem_cons, not_mem_nil, or_false] at hu
 rcases hu with rfl | rfl <;> rfl
theorem med1 (a : ByteArray) (b : Int) (A0 : Option Addr) (a0 b0 : Nat) (A1 : Option Addr) (a1 b1 : Nat) (A2 : Option Addr) (a2 b2 : Nat) (A3 : Option Addr) (a3 b3 : Nat) (A4 : Option Addr) (a4 b4 : Nat) (A5 : Option Addr) (a5 b5 : Nat) (A6 : Option Addr) (a6 b6 : Nat) (A7 : Option Addr) (a7 b7 : Nat) : ([.string a, .int .i64 b, .slice A0 a0 b0, .slice A1 a1 b1, .slice A2 a2 b2, .slice A3 a3 b3, .slice A4 a4 b4, .slice A5 a5 b5, .slice A6 a6 b6, .slice A7 a7 b7] : List Value).length = 10 /\ ∀ u ∈ ([.string a, .int .i64 b, .slice A0 a0 b0, .slice A1 a1 b1, .slice A2 a2 b2, .slice A3 a3 b3, .slice A4 a4 b4, .slice A5 a5 b5, .slice A6 a6 b6, .slice A7 a7 b7] : List Value), u.oneCell' = true := by
 refine ⟨rfl, fun u hu => ?_⟩
 simp only [mem_cons, not_mem_nil, or_false] at hu
 rcases hu with rfl | rfl | rfl | rfl | rfl | rfl | rfl | rfl | rfl | rfl <;> rfl
theorem built86 (a : ByteArray) (b : Int) (A0 : Option Addr) (a0 b0 : Nat) (A1 : Option Addr) (a1 b1 : Nat) (A2 : Option Addr) (a2 b2 : Nat) (A3 : Option Addr) (a3 b3 : Nat) (A4 : Option Addr) (a4 b4 : Nat) (A5 : Option Addr) (a5 b5 : Nat) (A6 : Option Addr) (a6 b6 : Nat) (A7 : Option Addr) (a7 b7 : Nat) : prog.built 86 [(0, .string a), (1, .int .i64 b), (2, .slice A0 a0 b0), (3, .slice A1 a1 b1), (4, .slice A2 a2 b2), (5, .slice A3 a3 b3), (6, .slice A4 a4 b4), (7, .slice A5 a5 b5), (8, .slice A6 a6 b6), (9, .slice A7 a7 b7)] = some #[.string a, .int .i64 b, .slice A0 a0 b0, .slice A1 a1 b1, .slice A2 a2 b2, .slice A3 a3 b3, .slice A4 a4 b4, .slice A5 a5 b5, .slice A6 a6 b6, .slice A7 a7 b7] := by kernel_rfl
theorem qK8 {P : Program} {o : Oper} {a : Act} {w : World} {K : Act -> World -> Prop} {Q : Exit -> Act -> World -> Prop} (t : TypeId) (parts : Array (Nat × Operand)) (vals : List (Nat × Value)) (cells : Array Value) (ho : o.op = .build t parts)
 (he : (parts.map fun (i, x) => (i, a.eval x)).toList = vals) (hb : P.built t vals = some cells) (h : K (a.put o.dst (.agg cells)) w) : o.wp P a w K Q :=
 wp_build t parts ho (by rw [he, hb]; rfl) (by rw [he, hb]; exact h)
theorem inft : (prog.info? 74).map (fun i => (i.zero, i.size, i.bytes)) = some (some (.agg #[.int .u64 0, .int .u64 0, .slice none 0 0]), 3, 40) := inf74
theorem infr : (prog.info? 78).map (fun i => (i.zero, i.size, i.bytes)) = some (some (.agg #[.int .i64 0, .int .i64 0, .slice none 0 0]), 3, 40) := inf78
theorem infz : (prog.info? 81).map (fun i => (i.zero, i.size, i.bytes)) = some (some (.agg #[.int .u64 0, .int .i64 0]), 2, 16) := inf81
theorem infm : (prog.info? 86).map (fun i => (i.zero, i.size, i.bytes)) = some (some (.agg #[.string ⟨#[]⟩, .int .i64 0, .slice none 0 0, .slice none 0 0, .slice none 0 0, .slice none 0 0, .slice none 0 0, .slice none 0 0, .slice none 0 0, .slice none 0 0]), 10, 216) := inf86
theorem wp_one86 {o : Oper} {act : Act} {w : World} {K : Act -> World -> Prop} {Q : Exit -> Act -> World -> Prop} (x : Operand) (ho : o.op = .buildSlice 41 1 #[(0, x)]) (a : ByteArray) (b : Int) (A0 : Option Addr) (a0 b0 : Nat) (A1 : Option Addr) (a1 b1 : Nat) (A2 : Option Addr) (a2 b2 : Nat) (A3 : Option Addr) (a3 b3 : Nat) (A4 : Option Addr) (a4 b4 : Nat) (A5 : Option Addr) (a5 b5 : Nat) (A6 : Option Addr) (a6 b6 : Nat) (A7 : Option Addr) (a7 b7 : Nat)
 (hx : act.eval x = .agg #[.string a, .int .i64 b, .slice A0 a0 b0, .slice A1 a1 b1, .slice A2 a2 b2, .slice A3 a3 b3, .slice A4 a4 b4, .slice A5 a5 b5, .slice A6 a6 b6, .slice A7 a7 b7]) (h : K (act.put o.dst (.slice (some ⟨w.heap.size, 0, none⟩) 1 1)) (w.alloc (.cells #[.string a, .int .i64 b, .slice A0 a0 b0, .slice A1 a1 b1, .slice A2 a2 b2, .slice A3 a3 b3, .slice A4 a4 b4, .slice A5 a5 b5, .slice A6 a6 b6, .slice A7 a7 b7] 86))) : o.wp prog act w K Q := by
 obtain ⟨i0, hi, hzz⟩ := Option.map_eq_some_iff.1 infm
 simp only [Prod.mk.injEq] at hzz
 obtain ⟨hz0, hz1, _⟩ := hzz
 refine wp_buildSlice 41 86 1 _ ho _ i0 _ underlying41 hi hz0 (by rw [hz1]; decide) (by rw [hz1]; decide) ?_ h
 have e1 : ((#[(0, x)] : Array (Nat × Operand)).map fun (i, x) => (i, act.eval x)).toList = [(0, .agg #[.string a, .int .i64 b, .slice A0 a0 b0, .slice A1 a1 b1, .slice A2 a2 b2, .slice A3 a3 b3, .slice A4 a4 b4, .slice A5 a5 b5, .slice A6 a6 b6, .slice A7 a7 b7])] := by simp [hx]
 rw [e1, hz1]
 change Instr.fill _ _ _ = some _
 kernel_rfl
theorem qMx : ∀ (W W' : World) x cs, qBx.rel W x cs -> qBx.rel W' x cs := fun _ _ _ _ h => h
theorem qMy : ∀ (W W' : World) x cs, qBy.rel W x cs -> qBy.rel W' x cs := fun _ _ _ _ h => h
set_option maxRecDepth 100000 in
set_option maxHeartbeats 40000000 in
theorem qIp (x : Ssn) (w : World) (v0 v1 v2 v3 v4 v5 v6 v7 v8 v9 v10 : Value) (m : SsnAt w x v0 v1 v2 v3 v4 v5 v6 v7 v8 v9 v10)
 (hl : x.conn.length <= 2147483647 /\ x.bws.length <= 2147483647 /\ x.atts.length <= 2147483647 /\ x.times.length <= 2147483647 /\ x.zones.length <= 2147483647 /\ x.media.length <= 2147483647) (hlc : ∀ c ∈ x.conn, c.adrs.length <= 2147483647) (hlt : ∀ t ∈ x.times, t.reps.length <= 2147483647)
 (hlm : ∀ y ∈ x.media, y.conn.length <= 2147483647 /\ y.bws.length <= 2147483647 /\ y.atts.length <= 2147483647 /\ ∀ c ∈ y.conn, c.adrs.length <= 2147483647) :
 Calls prog 9 #[qBv x v0 v1 v2 v3 v4 v5 v6 v7 v8 v9 v10] w fun e w' => ∃ v, e = .returned v /\ qIx w' x v /\ Nw w w' := by
 unfold qBv
 obtain ⟨A0, n0, rfl⟩ := Ty.Sl_form m.info
 obtain ⟨A1, n1, rfl⟩ := Ty.Sl_form m.uri
 obtain ⟨A2, n2, rfl⟩ := Ty.Sl_form m.email
 obtain ⟨A3, n3, rfl⟩ := Ty.Sl_form m.phone
 obtain ⟨A4, n4, rfl⟩ := Ty.Sl_form m.conn
 obtain ⟨A5, n5, rfl⟩ := Ty.Sl_form m.bws
 obtain ⟨A6, n6, rfl⟩ := Ty.Sl_form m.times
 obtain ⟨A7, n7, rfl⟩ := Ty.Sl_form m.zones
 obtain ⟨A8, n8, rfl⟩ := Ty.Sl_form m.key
 obtain ⟨A9, n9, rfl⟩ := Ty.Sl_form m.atts
 obtain ⟨A10, n10, rfl⟩ := Ty.Sl_form m.media
 obtain ⟨r1, hr1⟩ : ∃ r, r = w.heap.size := ⟨_, rfl⟩
 obtain ⟨r0, hr0⟩ : ∃ r, r = r1 + 1 := ⟨_, rfl⟩
 obtain ⟨o, ho⟩ : ∃ r, r = r0 + 1 := ⟨_, rfl⟩
 obtain ⟨w0, hw0⟩ : ∃ w0, w0 = ((w.alloc (.cells #[.int .i64 x.ver, .string x.org.user, .int .u64 x.org.id, .int .u64 x.org.ver, .string x.org.net, .string x.org.addr, .string x.org.adr, .string x.name, .slice A0 x.info.length n0, .slice A1 x.uri.length n1, .slice A2 x.email.length n2, .slice A3 x.phone.length n3, .slice A4 x.conn.length n4, .slice A5 x.bws.length n5, .slice A6 x.times.length n6, .slice A7 x.zones.length n7, .slice A8 x.key.length n8, .slice A9 x.atts.length n9, .slice A10 x.media.length n10] 33)).alloc (.cells #[.int .i64 0, .string ⟨#[]⟩, .int .u64 0, .int .u64 0, .string ⟨#[]⟩, .string ⟨#[]⟩, .string ⟨#[]⟩, .string ⟨#[]⟩, .slice none 0 0, .slice none 0 0, .slice none 0 0, .slice none 0 0, .slice none 0 0, .slice none 0 0, .slice none 0 0, .slice none 0 0, .slice none 0 0, .slice none 0 0, .slice none 0 0] 43)).alloc (.cells #[.string x.org.user, .int .u64 x.org.id, .int .u64 x.org.ver, .string x.org.net, .string x.org.addr, .string x.org.adr] 24) := ⟨_, rfl⟩
 have q0 : Nw w w0 := by rw [hw0]; exact (((Nw.refl w).alloc _).alloc _).alloc _
 have b1 : Blk w0 r1 [.int .i64 x.ver, .string x.org.user, .int .u64 x.org.id, .int .u64 x.org.ver, .string x.org.net, .string x.org.addr, .string x.org.adr, .string x.name, .slice A0 x.info.length n0, .slice A1 x.uri.length n1, .slice A2 x.email.length n2, .slice A3 x.phone.length n3, .slice A4 x.conn.length n4, .slice A5 x.bws.length n5, .slice A6 x.times.length n6, .slice A7 x.zones.length n7, .slice A8 x.key.length n8, .slice A9 x.atts.length n9, .slice A10 x.media.length n10] 33 := by rw [hw0, hr1]; exact ((Blk.made w [.int .i64 x.ver, .string x.org.user, .int .u64 x.org.id, .int .u64 x.org.ver, .string x.org.net, .string x.org.addr, .string x.org.adr, .string x.name, .slice A0 x.info.length n0, .slice A1 x.uri.length n1, .slice A2 x.email.length n2, .slice A3 x.phone.length n3, .slice A4 x.conn.length n4, .slice A5 x.bws.length n5, .slice A6 x.times.length n6, .slice A7 x.zones.length n7, .slice A8 x.key.length n8, .slice A9 x.atts.length n9, .slice A10 x.media.length n10] 33).alloc _).alloc _
 have b0 : Blk w0 r0 [.int .i64 0, .string ⟨#[]⟩, .int .u64 0, .int .u64 0, .string ⟨#[]⟩, .string ⟨#[]⟩, .string ⟨#[]⟩, .string ⟨#[]⟩, .slice none 0 0, .slice none 0 0, .slice none 0 0, .slice none 0 0, .slice none 0 0, .slice none 0 0, .slice none 0 0, .slice none 0 0, .slice none 0 0, .slice none 0 0, .slice none 0 0] 43 := by
  rw [hw0, hr0, hr1]
  have := (Blk.made (w.alloc (.cells #[.int .i64 x.ver, .string x.org.user, .int .u64 x.org.id, .int .u64 x.org.ver, .string x.org.net, .string x.org.addr, .string x.org.adr, .string x.name, .slice A0 x.info.length n0, .slice A1 x.uri.length n1, .slice A2 x.email.length n2, .slice A3 x.phone.length n3, .slice A4 x.conn.length n4, .slice A5 x.bws.length n5, .slice A6 x.times.length n6, .slice A7 x.zones.length n7, .slice A8 x.key.length n8, .slice A9 x.atts.length n9, .slice A10 x.media.length n10] 33)) [.int .i64 0, .string ⟨#[]⟩, .int .u64 0, .int .u64 0, .string ⟨#[]⟩, .string ⟨#[]⟩, .string ⟨#[]⟩, .string ⟨#[]⟩, .slice none 0 0, .slice none 0 0, .slice none 0 0, .slice none 0 0, .slice none 0 0, .slice none 0 0, .slice none 0 0, .slice none 0 0, .slice none 0 0, .slice none 0 0, .slice none 0 0] 43).alloc (.cells #[.string x.org.user, .int .u64 x.org.id, .int .u64 x.org.ver, .string x.org.net, .string x.org.addr, .string x.org.adr] 24)
  simp at this
  exact this
 have bo : Blk w0 o [.string x.org.user, .int .u64 x.org.id, .int .u64 x.org.ver, .string x.org.net, .string x.org.addr, .string x.org.adr] 24 := by
  rw [hw0, ho, hr0, hr1]
  have := Blk.made ((w.alloc (.cells #[.int .i64 x.ver, .string x.org.user, .int .u64 x.org.id, .int .u64 x.org.ver, .string x.org.net, .string x.org.addr, .string x.org.adr, .string x.name, .slice A0 x.info.length n0, .slice A1 x.uri.length n1, .slice A2 x.email.length n2, .slice A3 x.phone.length n3, .slice A4 x.conn.length n4, .slice A5 x.bws.length n5, .slice A6 x.times.length n6, .slice A7 x.zones.length n7, .slice A8 x.key.length n8, .slice A9 x.atts.length n9, .slice A10 x.media.length n10] 33)).alloc (.cells #[.int .i64 0, .string ⟨#[]⟩, .int .u64 0, .int .u64 0, .string ⟨#[]⟩, .string ⟨#[]⟩, .string ⟨#[]⟩, .string ⟨#[]⟩, .slice none 0 0, .slice none 0 0, .slice none 0 0, .slice none 0 0, .slice none 0 0, .slice none 0 0, .slice none 0 0, .slice none 0 0, .slice none 0 0, .slice none 0 0, .slice none 0 0] 43)) [.string x.org.user, .int .u64 x.org.id, .int .u64 x.org.ver, .string x.org.net, .string x.org.addr, .string x.org.adr] 24
  simp only [World.alloc, Array.size_push] at this
  exact this
 have HS0 : Hid (∀ w', Nw w0 w' -> (w'.cell? ⟨r1, 0, none⟩ = some (.int .i64 x.ver) /\ w'.cell? ⟨r1, 7, none⟩ = some (.string x.name) /\ w'.cell? ⟨r1, 8, none⟩ = some (.slice A0 x.info.length n0) /\ w'.cell? ⟨r1, 9, none⟩ = some (.slice A1 x.uri.length n1) /\ w'.cell? ⟨r1, 10, none⟩ = some (.slice A2 x.email.length n2) /\ w'.cell? ⟨r1, 11, none⟩ = some (.slice A3 x.phone.length n3) /\ w'.cell? ⟨r1, 12, none⟩ = some (.slice A4 x.conn.length n4) /\ w'.cell? ⟨r1, 13, none⟩ = some (.slice A5 x.bws.length n5) /\ w'.cell? ⟨r1, 16, none⟩ = some (.slice A8 x.key.length n8) /\ w'.cell? ⟨r1, 17, none⟩ = some (.slice A9 x.atts.length n9) /\ w'.cell? ⟨o, 0, none⟩ = some (.string x.org.user) /\ w'.cell? ⟨o, 1, none⟩ = some (.int .u64 x.org.id) /\ w'.cell? ⟨o, 2, none⟩ = some (.int .u64 x.org.ver) /\ w'.cell? ⟨o, 3, none⟩ = some (.string x.org.net) /\ w'.cell? ⟨o, 4, none⟩ = some (.string x.org.addr) /\ w'.cell? ⟨o, 5, none⟩ = some (.string x.org.adr))) := hid (fun w' hn => ⟨(b1.nw hn).cell 0 rfl, (b1.nw hn).cell 7 rfl, (b1.nw hn).cell 8 rfl, (b1.nw hn).cell 9 rfl, (b1.nw hn).cell 10 rfl, (b1.nw hn).cell 11 rfl, (b1.nw hn).cell 12 rfl, (b1.nw hn).cell 13 rfl, (b1.nw hn).cell 16 rfl, (b1.nw hn).cell 17 rfl, (bo.nw hn).cell 0 rfl, (bo.nw hn).cell 1 rfl, (bo.nw hn).cell 2 rfl, (bo.nw hn).cell 3 rfl, (bo.nw hn).cell 4 rfl, (bo.nw hn).cell 5 rfl⟩)
 have nsz : w0.heap.size = o + 1 := by rw [hw0, ho, hr0, hr1]; simp
 go_enter func9, ntmps9
 go_upto_region 2 with fail
 rw [<- hr1, <- hr0, <- ho, <- hw0]
 have H1 := hid hr1
 have H0 := hid hr0
 have HO := hid ho
 have HN := hid nsz
 clear hw0 hr1 hr0 ho nsz
 go_cut [4] from 14 (fun v4 wc => ∃ g4 u4 u5 u9, v4 = .pointer (some ⟨g4, 0, none⟩) /\ w0.heap.size <= g4 /\ Blk wc g4 [.int .i64 x.ver, .string x.org.user, .int .u64 x.org.id, .int .u64 x.org.ver, .string x.org.net, .string x.org.addr, .string x.org.adr, .string x.name, .slice A0 x.info.length n0, .slice A1 x.uri.length n1, .slice A2 x.email.length n2, .slice A3 x.phone.length n3, u4, u5, .slice none 0 0, .slice none 0 0, .slice A8 x.key.length n8, u9, .slice none 0 0] 43 /\ Nw w0 wc /\ qAq (fun W => qC0.Sl W x.conn u4) wc (fun k => (k < w.heap.size ∨ w0.heap.size <= k) /\ ¬ k = g4) /\ qAq (fun W => qBx.Sl W x.bws u5) wc (fun k => (k < w.heap.size ∨ w0.heap.size <= k) /\ ¬ k = g4) /\ qAq (fun W => qBy.Sl W x.atts u9) wc (fun k => (k < w.heap.size ∨ w0.heap.size <= k) /\ ¬ k = g4))
 case first =>
  have hsw := q0.size
  go_region_held3 (fun w' => w'.cell? ⟨r1, 0, none⟩ = some (.int .i64 x.ver) /\ w'.cell? ⟨r1, 7, none⟩ = some (.string x.name) /\ w'.cell? ⟨r1, 8, none⟩ = some (.slice A0 x.info.length n0) /\ w'.cell? ⟨r1, 9, none⟩ = some (.slice A1 x.uri.length n1) /\ w'.cell? ⟨r1, 10, none⟩ = some (.slice A2 x.email.length n2) /\ w'.cell? ⟨r1, 11, none⟩ = some (.slice A3 x.phone.length n3) /\ w'.cell? ⟨r1, 12, none⟩ = some (.slice A4 x.conn.length n4) /\ w'.cell? ⟨r1, 13, none⟩ = some (.slice A5 x.bws.length n5) /\ w'.cell? ⟨r1, 16, none⟩ = some (.slice A8 x.key.length n8) /\ w'.cell? ⟨r1, 17, none⟩ = some (.slice A9 x.atts.length n9) /\ w'.cell? ⟨o, 0, none⟩ = some (.string x.org.user) /\ w'.cell? ⟨o, 1, none⟩ = some (.int .u64 x.org.id) /\ w'.cell? ⟨o, 2, none⟩ = some (.int .u64 x.org.ver) /\ w'.cell? ⟨o, 3, none⟩ = some (.string x.org.net) /\ w'.cell? ⟨o, 4, none⟩ = some (.string x.org.addr) /\ w'.cell? ⟨o, 5, none⟩ = some (.string x.org.adr)) (((with_reducible refine HS0.out _ ?_); (repeat (first | (with_reducible assumption) | (with_reducible exact Nw.refl _) | (with_reducible refine Nw.drew ?_) | (with_reducible refine Nw.alloc ?_ _) | (with_reducible refine Nw.setRow ?_ ?_ _) | exact Nat.le_refl _ | exact sz0 | exact sz1 | exact sz2)); done)) (first
   | (go_at_call 28; (with_reducible refine (qFi x.conn _ w _ (Nw.trans q0 ?_) m.conn hl.1 hlc).mono ?_); (focus (repeat (first | (with_reducible assumption) | (with_reducible exact Nw.refl _) | (with_reducible refine Nw.drew ?_) | (with_reducible refine Nw.alloc ?_ _) | (with_reducible refine Nw.setRow ?_ ?_ _) | exact Nat.le_refl _ | exact sz0 | exact sz1 | exact sz2)); done); rintro e z0 ⟨t0, rfl, hs0, hn0⟩; have hp0 : Nw w0 z0 := (by refine Nw.trans ?_ hn0; (repeat (first | (with_reducible assumption) | (with_reducible exact Nw.refl _) | (with_reducible refine Nw.drew ?_) | (with_reducible refine Nw.alloc ?_ _) | (with_reducible refine Nw.setRow ?_ ?_ _) | exact Nat.le_refl _ | exact sz0 | exact sz1 | exact sz2)); done); have sz0 := hp0.size; have hr0 : Nw w0 z0 := (by refine Nw.trans ?_ hn0; (repeat (first | (with_reducible assumption) | (with_reducible exact Nw.refl _) | (with_reducible refine Nw.drew ?_) | (with_reducible refine Nw.alloc ?_ _) | (with_reducible refine Nw.setRow ?_ ?_ _) | exact Nat.le_refl _ | exact sz0 | exact sz1 | exact sz2)); done); have szc0 := hn0.size; (try simp only [World.alloc, World.drew, Array.size_push] at szc0); obtain ⟨C0, k0, rfl, _⟩ := qAo.form hs0; (try have hB := Blk.nw (Blk.made _ [.int .i64 0, .string ⟨#[]⟩, .int .u64 0, .int .u64 0, .string ⟨#[]⟩, .string ⟨#[]⟩, .string ⟨#[]⟩, .string ⟨#[]⟩, .slice none 0 0, .slice none 0 0, .slice none 0 0, .slice none 0 0, .slice none 0 0, .slice none 0 0, .slice none 0 0, .slice none 0 0, .slice none 0 0, .slice none 0 0, .slice none 0 0] 43) hn0); (try have hB := Blk.nw (Blk.drew (Blk.made _ [.int .i64 0, .string ⟨#[]⟩, .int .u64 0, .int .u64 0, .string ⟨#[]⟩, .string ⟨#[]⟩, .string ⟨#[]⟩, .string ⟨#[]⟩, .slice none 0 0, .slice none 0 0, .slice none 0 0, .slice none 0 0, .slice none 0 0, .slice none 0 0, .slice none 0 0, .slice none 0 0, .slice none 0 0, .slice none 0 0, .slice none 0 0] 43)) hn0); (try have hB := Blk.nw hB hn0))
   | (go_at_call 29; (with_reducible refine (qGc x.bws _ _ (Ty.Sl_loc (Nw.block (w := w) (Nw.trans q0 ?_)) m.bws) hl.2.1).mono ?_); (focus (repeat (first | (with_reducible assumption) | (with_reducible exact Nw.refl _) | (with_reducible refine Nw.drew ?_) | (with_reducible refine Nw.alloc ?_ _) | (with_reducible refine Nw.setRow ?_ ?_ _) | exact Nat.le_refl _ | exact sz0 | exact sz1 | exact sz2)); done); rintro e z1 ⟨t1, rfl, hs1, hn1⟩; have hp1 : Nw w0 z1 := (by refine Nw.trans ?_ hn1; (repeat (first | (with_reducible assumption) | (with_reducible exact Nw.refl _) | (with_reducible refine Nw.drew ?_) | (with_reducible refine Nw.alloc ?_ _) | (with_reducible refine Nw.setRow ?_ ?_ _) | exact Nat.le_refl _ | exact sz0 | exact sz1 | exact sz2)); done); have sz1 := hp1.size; have hr1 : Nw z0 z1 := (by refine Nw.trans ?_ hn1; (repeat (first | (with_reducible assumption) | (with_reducible exact Nw.refl _) | (with_reducible refine Nw.drew ?_) | (with_reducible refine Nw.alloc ?_ _) | (with_reducible refine Nw.setRow ?_ ?_ _) | exact Nat.le_refl _ | exact sz0 | exact sz1 | exact sz2)); done); have szc1 := hn1.size; (try simp only [World.alloc, World.drew, Array.size_push] at szc1); obtain ⟨C1, k1, rfl, _⟩ := qAo.form hs1; (try have hB := Blk.nw (Blk.made _ [.int .i64 0, .string ⟨#[]⟩, .int .u64 0, .int .u64 0, .string ⟨#[]⟩, .string ⟨#[]⟩, .string ⟨#[]⟩, .string ⟨#[]⟩, .slice none 0 0, .slice none 0 0, .slice none 0 0, .slice none 0 0, .slice none 0 0, .slice none 0 0, .slice none 0 0, .slice none 0 0, .slice none 0 0, .slice none 0 0, .slice none 0 0] 43) hn1); (try have hB := Blk.nw (Blk.drew (Blk.made _ [.int .i64 0, .string ⟨#[]⟩, .int .u64 0, .int .u64 0, .string ⟨#[]⟩, .string ⟨#[]⟩, .string ⟨#[]⟩, .string ⟨#[]⟩, .slice none 0 0, .slice none 0 0, .slice none 0 0, .slice none 0 0, .slice none 0 0, .slice none 0 0, .slice none 0 0, .slice none 0 0, .slice none 0 0, .slice none 0 0, .slice none 0 0] 43)) hn1); (try have hB := Blk.nw hB hn1))
   | (go_at_call 30; (with_reducible refine (qGb x.atts _ _ (Ty.Sl_loc (Nw.block (w := w) (Nw.trans q0 ?_)) m.atts) hl.2.2.1).mono ?_); (focus (repeat (first | (with_reducible assumption) | (with_reducible exact Nw.refl _) | (with_reducible refine Nw.drew ?_) | (with_reducible refine Nw.alloc ?_ _) | (with_reducible refine Nw.setRow ?_ ?_ _) | exact Nat.le_refl _ | exact sz0 | exact sz1 | exact sz2)); done); rintro e z2 ⟨t2, rfl, hs2, hn2⟩; have hp2 : Nw w0 z2 := (by refine Nw.trans ?_ hn2; (repeat (first | (with_reducible assumption) | (with_reducible exact Nw.refl _) | (with_reducible refine Nw.drew ?_) | (with_reducible refine Nw.alloc ?_ _) | (with_reducible refine Nw.setRow ?_ ?_ _) | exact Nat.le_refl _ | exact sz0 | exact sz1 | exact sz2)); done); have sz2 := hp2.size; have hr2 : Nw z1 z2 := (by refine Nw.trans ?_ hn2; (repeat (first | (with_reducible assumption) | (with_reducible exact Nw.refl _) | (with_reducible refine Nw.drew ?_) | (with_reducible refine Nw.alloc ?_ _) | (with_reducible refine Nw.setRow ?_ ?_ _) | exact Nat.le_refl _ | exact sz0 | exact sz1 | exact sz2)); done); have szc2 := hn2.size; (try simp only [World.alloc, World.drew, Array.size_push] at szc2); obtain ⟨C2, k2, rfl, _⟩ := qAo.form hs2; (try have hB := Blk.nw (Blk.made _ [.int .i64 0, .string ⟨#[]⟩, .int .u64 0, .int .u64 0, .string ⟨#[]⟩, .string ⟨#[]⟩, .string ⟨#[]⟩, .string ⟨#[]⟩, .slice none 0 0, .slice none 0 0, .slice none 0 0, .slice none 0 0, .slice none 0 0, .slice none 0 0, .slice none 0 0, .slice none 0 0, .slice none 0 0, .slice none 0 0, .slice none 0 0] 43) hn2); (try have hB := Blk.nw (Blk.drew (Blk.made _ [.int .i64 0, .string ⟨#[]⟩, .int .u64 0, .int .u64 0, .string ⟨#[]⟩, .string ⟨#[]⟩, .string ⟨#[]⟩, .string ⟨#[]⟩, .slice none 0 0, .slice none 0 0, .slice none 0 0, .slice none 0 0, .slice none 0 0, .slice none 0 0, .slice none 0 0, .slice none 0 0, .slice none 0 0, .slice none 0 0, .slice none 0 0] 43)) hn2); (try have hB := Blk.nw hB hn2); (try have hrow := qEu (n := 19) hB rfl)))
  all_goals
   as_aux_lemma =>
    go_wp2
    have ch2 : Nw z2 z2 := Nw.refl _
    have ch1 : Nw z1 z2 := hr2.trans ch2
    have ch0 : Nw z0 z2 := hr1.trans ch1
    go_meet
    case rel =>
     refine ⟨_, _, _, _, rfl, ?_, ?_, ?_, qHf (qD1 hs0 (by omega) (fun k e => e)) ?_ ?_ ?_ ?_, qHf (qD1 (qAo.reok qMx hs1 (fun _ => False)) (by omega) (fun k e => e.elim)) ?_ ?_ ?_ ?_, qHf (qD1 (qAo.reok qMy hs2 (fun _ => False)) (by omega) (fun k e => e.elim)) ?_ ?_ ?_ ?_⟩
     · first | exact Nat.le_refl _ | exact sz0 | exact sz1 | exact sz2
     · first | (with_reducible exact qBp hB) | (with_reducible exact qBp (Blk.made _ _ 43)) | (with_reducible exact qBp (Blk.drew (Blk.made _ _ 43))) | exact qBp (Blk.made _ _ 43)
     · (repeat (first | (with_reducible assumption) | (with_reducible exact Nw.refl _) | (with_reducible refine Nw.drew ?_) | (with_reducible refine Nw.alloc ?_ _) | (with_reducible refine Nw.setRow ?_ ?_ _) | exact Nat.le_refl _ | exact sz0 | exact sz1 | exact sz2))
     · (repeat (first | (with_reducible exact Nw.fr ch0 _) | (with_reducible refine Fr.setRowG ?_ _) | (with_reducible refine Fr.alloc ?_ _) | (with_reducible refine Fr.drew ?_)))
     · first | exact hsw | (refine Nat.le_trans hsw ?_; first | exact Nat.le_refl _ | exact sz0 | exact sz1 | exact sz2 | (simp only [World.alloc, World.drew, Array.size_push]; omega))
     · first | exact Nat.le_refl _ | exact sz0 | exact sz1 | exact sz2 | (simp only [World.alloc, World.drew, Array.size_push]; omega)
     · first | exact .inl (by simp only [World.alloc, World.drew, Array.size_push]; omega) | exact .inr (by omega) | exact .inl (by omega)
     · (repeat (first | (with_reducible exact Nw.fr ch1 _) | (with_reducible refine Fr.setRowG ?_ _) | (with_reducible refine Fr.alloc ?_ _) | (with_reducible refine Fr.drew ?_)))
     · first | exact hsw | (refine Nat.le_trans hsw ?_; first | exact Nat.le_refl _ | exact sz0 | exact sz1 | exact sz2 | (simp only [World.alloc, World.drew, Array.size_push]; omega))
     · first | exact Nat.le_refl _ | exact sz0 | exact sz1 | exact sz2 | (simp only [World.alloc, World.drew, Array.size_push]; omega)
     · first | exact .inl (by simp only [World.alloc, World.drew, Array.size_push]; omega) | exact .inr (by omega) | exact .inl (by omega)
     · (repeat (first | (with_reducible exact Nw.fr ch2 _) | (with_reducible refine Fr.setRowG ?_ _) | (with_reducible refine Fr.alloc ?_ _) | (with_reducible refine Fr.drew ?_)))
     · first | exact hsw | (refine Nat.le_trans hsw ?_; first | exact Nat.le_refl _ | exact sz0 | exact sz1 | exact sz2 | (simp only [World.alloc, World.drew, Array.size_push]; omega))
     · first | exact Nat.le_refl _ | exact sz0 | exact sz1 | exact sz2 | (simp only [World.alloc, World.drew, Array.size_push]; omega)
     first | exact .inl (by simp only [World.alloc, World.drew, Array.size_push]; omega) | exact .inr (by omega) | exact .inl (by omega)
 as_aux_lemma =>
  obtain ⟨g4, u4, u5, u9, rfl, hg4, hB4, hN, F4, F5, F9⟩ := hcut
  obtain ⟨B4, m4, rfl⟩ := Ty.Sl_form F4.now
  obtain ⟨B5, m5, rfl⟩ := Ty.Sl_form F5.now
  obtain ⟨B9, m9, rfl⟩ := Ty.Sl_form F9.now
  have hW : Nw w wc := q0.trans hN
  have hDc := b1.nw hN
  have d14 := hDc.cell 14 rfl
  have hw0 : w.heap.size <= w0.heap.size := q0.size
  have hg4c := hB4.lt
  have hrg : ¬ r1 = g4 := fun e => by have := b1.lt; omega
  have HM := hid m
  have HLT := hid hlt
  have HLM := hid hlm
  have hl3 := hl.2.2.2
  have HB1 := hid b1
  have HB0 := hid b0
  clear HS0 m hlt hlm hl b1 b0 bo hlc
  go_wp2
  go_loopg [56] x.times.length (fun n i wr => ∃ (k : Nat) (tv : Value), k <= x.times.length /\ n = x.times.length - k /\ i = .int .i64 k /\ Blk wr g4 [.int .i64 x.ver, .string x.org.user, .int .u64 x.org.id, .int .u64 x.org.ver, .string x.org.net, .string x.org.addr, .string x.org.adr, .string x.name, .slice A0 x.info.length n0, .slice A1 x.uri.length n1, .slice A2 x.email.length n2, .slice A3 x.phone.length n3, .slice B4 x.conn.length m4, .slice B5 x.bws.length m5, tv, .slice none 0 0, .slice A8 x.key.length n8, .slice B9 x.atts.length m9, .slice none 0 0] 43 /\ qAo qCc wr wc.heap.size 74 tv (x.times.take k) (fun k => k < w.heap.size ∨ wc.heap.size <= k) /\ Fr (fun k => k = g4) wc wr)
  case atStart => exact ⟨0, .slice none 0 0, Nat.zero_le _, rfl, rfl, hB4, qAo.nil _ _ _ _ _, Fr.refl _ _⟩
  obtain ⟨k, tv, hk, hn, rfl, hBk, hTk, hFk⟩ := hrel
  have HN1 := hid hn
  clear hn
  have hOld : ∀ (p : Addr) (u : Value), w.cell? p = some u -> wr.cell? p = some u := fun p u hc => hFk.cell (S := fun k => k = g4) (fun e => by have h1 := World.block_lt_of_cell? _ _ hc; have e' : p.block = g4 := e; omega) (hW.cell hc)
  have HOLD := hid hOld
  clear hOld
  by_cases hlt : k < x.times.length
  · obtain ⟨b, o', rfl, ha⟩ := Ty.Sl_at HM.out.times k hlt
    obtain ⟨cs, ⟨p1, rfl, ht0, ht1, h1⟩, hx⟩ := ha k _ (List.getElem?_eq_getElem hlt)
    obtain ⟨Ar, cr, rfl⟩ := Ty.Sl_form h1
    have c0 := HOLD.out _ _ (hx 0 _ rfl)
    have c1 := HOLD.out _ _ (hx 1 _ rfl)
    have c2 := HOLD.out _ _ (hx 2 _ rfl)
    simp only [qCc, Nat.add_zero] at c0 c1 c2
    have HT := hid (qAt hlt)
    have hlt2 := HLT.out _ (List.getElem_mem hlt)
    clear hx ha
    obtain ⟨t, hte⟩ : ∃ t, t = x.times[k] := ⟨_, rfl⟩
    rw [<- hte] at c0 c1 c2 ht0 ht1 h1 HT hlt2
    clear hte
    go_upto_region 7 with fail
    obtain ⟨wT, rfl⟩ : ∃ wT, wT = wr := ⟨_, rfl⟩
    obtain ⟨g7, hg7⟩ : ∃ g, g = wT.heap.size + 1 := ⟨_, rfl⟩
    obtain ⟨wB, hwB⟩ : ∃ wB, wB = (wT.alloc (.cells #[.int .u64 t.start, .int .u64 t.stop, .slice Ar t.reps.length cr] 71)).alloc (.cells #[.int .u64 t.start, .int .u64 t.stop, .slice none 0 0] 74) := ⟨_, rfl⟩
    have hqB : Nw wT wB := by rw [hwB]; exact ((Nw.refl wT).alloc _).alloc _
    have hG7 : Blk wB g7 [.int .u64 t.start, .int .u64 t.stop, .slice none 0 0] 74 := by rw [hwB, hg7]; exact Blk.made' (by simp) _ 74
    have hG6 : Blk wB wT.heap.size [.int .u64 t.start, .int .u64 t.stop, .slice Ar t.reps.length cr] 71 := by rw [hwB]; exact Blk.alloc (Blk.made wT _ 71) _
    have e2 := hG6.cell 2 rfl
    have hWT : Nw w wT := hW.frIn hFk (fun k e => by rw [e]; omega)
    have hWB : Nw w wB := hWT.trans hqB
    have hsT : wc.heap.size <= wT.heap.size := hFk.size
    have hwc : w.heap.size <= wc.heap.size := hW.size
    have hsB : wT.heap.size <= wB.heap.size := hqB.size
    rw [<- hwB, <- hg7]
    have HG7 := hid hg7
    have hg7w : wT.heap.size < g7 := by omega
    clear hwB hg7 c0 c1 c2
    go_wp2
    go_loopg [68] t.reps.length (fun n i wr => ∃ (j : Nat) (rv : Value), j <= t.reps.length /\ n = t.reps.length - j /\ i = .int .i64 j /\ Blk wr g7 [.int .u64 t.start, .int .u64 t.stop, rv] 74 /\ qAo qDc wr wB.heap.size 78 rv (t.reps.take j) (fun k => k < w.heap.size) /\ Fr (fun k => k = g7) wB wr)
    case atStart => exact ⟨0, .slice none 0 0, Nat.zero_le _, rfl, rfl, hG7, qAo.nil _ _ _ _ _, Fr.refl _ _⟩
    obtain ⟨j, rv, hj, hn', rfl, hBj, hRj, hFj⟩ := hrel
    have HN2 := hid hn'
    clear hn'
    by_cases hlt2' : j < t.reps.length
    · obtain ⟨b2, o2, rfl, ha2⟩ := Ty.Sl_at h1 j hlt2'
      obtain ⟨cs2, ⟨p2, rfl, hr0, hr1, hof⟩, hx2⟩ := ha2 j _ (List.getElem?_eq_getElem hlt2')
      obtain ⟨Ao, co, rfl⟩ := Ty.Sl_form hof
      have HOLD2 : ∀ (p : Addr) (u : Value), w.cell? p = some u -> wr.cell? p = some u := fun p u hc => hFj.cell (S := fun k => k = g7) (fun e => by have h1 := World.block_lt_of_cell? _ _ hc; have e' : p.block = g7 := e; omega) (hqB.cell (HOLD.out p u hc))
      have d0 := HOLD2 _ _ (hx2 0 _ rfl)
      have d1 := HOLD2 _ _ (hx2 1 _ rfl)
      have d2 := HOLD2 _ _ (hx2 2 _ rfl)
      simp only [qDc, Nat.add_zero] at d0 d1 d2
      have HT2 := hid (qAt hlt2')
      have hjl : (t.reps.take j).length <= j := by simp; omega
      have HOW := hid (sl_in hof)
      clear hx2 ha2 HOLD2 hof
      obtain ⟨r, hre⟩ : ∃ r, r = t.reps[j] := ⟨_, rfl⟩
      rw [<- hre] at d0 d1 d2 hr0 hr1 HT2 HOW
      clear hre
      have hWr : Nw w wr := hWB.frIn hFj (fun k e => by rw [e]; omega)
      go_upto_region 10 with fail
      obtain ⟨wC, hwC⟩ : ∃ wC, wC = wr.alloc (.cells #[.int .i64 r.ivl, .int .i64 r.dur, .slice Ao r.offs.length co] 77) := ⟨_, rfl⟩
      obtain ⟨g9, hg9⟩ : ∃ g, g = wr.heap.size := ⟨_, rfl⟩
      have hqC : Nw wr wC := by rw [hwC]; exact (Nw.refl wr).alloc _
      have hG9 : Blk wC g9 [.int .i64 r.ivl, .int .i64 r.dur, .slice Ao r.offs.length co] 77 := by rw [hwC, hg9]; exact Blk.made wr _ 77
      have hBC := hBj.nw hqC
      have hWC : Nw w wC := hWr.trans hqC
      have hFC : Fr (fun k => k = g7) wB wC := hFj.trans (hqC.fr _)
      obtain ⟨rows, hrow, hrl, hrg⟩ := hRj
      have hrowC := hrow.nw hqC
      have hown : ∀ k, rv.ownBlock = some k -> wB.heap.size <= k /\ k < wC.heap.size := fun k hk => ⟨(hrowC.base k hk).1, (hrowC.base k hk).2⟩
      have hgB : g7 < wB.heap.size := hG7.lt
      have hneg : ¬ some g7 = rv.ownBlock := fun e => by have := (hown g7 e.symm).1; omega
      have hsC : wB.heap.size <= wC.heap.size := hFC.size
      have e0 := hG9.cell 0 rfl
      have e1 := hG9.cell 1 rfl
      have e2' := hG9.cell 2 rfl
      have k2 := hBC.cell 2 rfl
      have hrls : rows.length <= 2147483647 := by rw [hrl]; omega
      rw [<- hwC, <- hg9]
      have HG9 := hid hg9
      have HRG := hid hrg
      clear hwC hg9 hrow hrg d0 d1 d2
      go_wp2_with ((refine qAc rfl fun K hK => ?_; (with_reducible refine qAn wB.heap.size (.tmp 73) (.tmp 81) 72 78 3 (.agg #[.int .i64 0, .int .i64 0, .slice none 0 0]) 40 ?_ underlying72 infr ?_ ?_ rv rows [.int .i64 r.ivl, .int .i64 r.dur, .slice Ao r.offs.length co] ?_ wC.heap.size ?_ (rep1 r.ivl r.dur Ao r.offs.length co) ?_ ?_ ?_ ?_ ?_ ?_); (focus rfl); (focus rfl); (focus decide); (focus rfl); (focus rfl); (focus (exact fun j u hu => Blk.cell (Blk.made wC [.int .i64 r.ivl, .int .i64 r.dur, .slice Ao r.offs.length co] 78) j hu)); (focus (exact hrowC.alloc _)); (focus (simp; omega)); (focus omega); (focus omega); intro v6 w6 hr6 hf6 ho6; refine hK _ _ ?_); obtain ⟨Av, cv, rfl, _⟩ := hr6.form; simp only [List.length_append, length_cons, length_nil, Nat.zero_add] at hr6 ho6; have hB6 := (hBC.alloc _).fr hf6 hneg; have k6 := hB6.cell 2 rfl; have z6 := hB6.fz 2)
      have hnA : Nw wr (wC.alloc (.cells #[.int .i64 r.ivl, .int .i64 r.dur, .slice Ao r.offs.length co] 78)) := hqC.alloc _
      have hrt := qAo.snoc (T := qDc) (xs := t.reps.take j) (y := r) (v := rv) (ok := fun k => k < w.heap.size) hr6 hrl (fun i y r' hy hr' => ((HRG.out i y r' hy hr').nw hnA).mono (fun k _ e => e.1))
       (qAq.mono (ok := fun k => k < w.heap.size) (fun W hWW => ⟨_, rfl, hr0, hr1, (HOW.out.nw (hWC.alloc _)) W (fun k hk hlt => hWW k hk.1 hlt)⟩) (fun k _ e => ⟨e, fun e2 => by have := (hown k e2.symm).1; omega⟩)) hf6 ho6
      have hrl3 : rows.length = j := by rw [hrl]; simp; omega
      rw [hrl3] at hrt
      go_roundg (t.reps.length - (j + 1))
      case measure => rw [HN2.out]; omega
      exact ⟨j + 1, .slice Av (j + 1) cv, by omega, rfl, by go_num, Blk.setP1 hB6 2 _ _ rfl, by
       rw [HT2.out]
       exact hrt.fr (Fr.self (p := ⟨g7, 2, none⟩) _) (fun k hk e => by have := (qAo.base hrt k hk).1; have e' : k = g7 := e; omega) (fun k hk hok e => by have e' : k = g7 := e; omega),
       Fr.setCell (S := fun k => k = g7) (p := ⟨g7, 2, none⟩) ((hFC.alloc _).trans (hf6.mono (fun k _ e => .inr (hown k e.symm).1))) (.inl rfl) _⟩
    have hjn : j = t.reps.length := by omega
    subst hjn
    rw [List.take_of_length_le (Nat.le_refl _)] at hRj
    obtain ⟨Arv, crv, rfl, _⟩ := qAo.form hRj
    have hFTr : Fr (fun k => k = g7) wT wr := (hqB.fr _).trans (hFj.mono (fun k _ e => .inl e))
    have hTr := qAo.fr hTk hFTr (fun k hk e => by have := (qAo.base hTk k hk).2; omega) (fun k hk _ e => by omega)
    have hg4T := hBk.lt
    have hBr := hBk.fr hFTr (fun e => by omega)
    obtain ⟨rowsT, hrowT, hrlT, hrgT⟩ := hTr
    have c14 := hBr.cell 14 rfl
    have c70 := hBj.cell 0 rfl
    have c71 := hBj.cell 1 rfl
    have c72 := hBj.cell 2 rfl
    have hownT : ∀ k, tv.ownBlock = some k -> wc.heap.size <= k /\ k < wT.heap.size := fun k hk => ⟨(hrowT.base k hk).1, (qAo.base hTk k hk).2⟩
    have hneg4 : ¬ some g4 = tv.ownBlock := fun e => by have := (hownT g4 e.symm).1; omega
    have hrlT2 : rowsT.length <= 2147483647 := by rw [hrlT]; simp; omega
    have hsr := hFTr.size
    have HRGT := hid hrgT
    clear hrgT
    go_wp2_with ((refine qAc rfl fun K hK => ?_; (with_reducible refine qAn wc.heap.size (.tmp 86) (.tmp 88) 38 74 3 (.agg #[.int .u64 0, .int .u64 0, .slice none 0 0]) 40 ?_ underlying38 inft ?_ ?_ tv rowsT [.int .u64 t.start, .int .u64 t.stop, .slice Arv t.reps.length crv] ?_ wr.heap.size ?_ (tim1 t.start t.stop Arv t.reps.length crv) ?_ ?_ ?_ ?_ ?_ ?_); (focus rfl); (focus rfl); (focus decide); (focus rfl); (focus rfl); (focus (exact fun j u hu => Blk.cell (Blk.made wr [.int .u64 t.start, .int .u64 t.stop, .slice Arv t.reps.length crv] 74) j hu)); (focus (exact hrowT.alloc _)); (focus (simp; omega)); (focus omega); (focus omega); intro v8 w8 hr8 hf8 ho8; refine hK _ _ ?_); obtain ⟨Av, cv, rfl, _⟩ := hr8.form; simp only [List.length_append, length_cons, length_nil, Nat.zero_add] at hr8 ho8; have hB8 := (hBr.alloc _).fr hf8 hneg4; have k8 := hB8.cell 14 rfl; have z8 := hB8.fz 14)
    have hFt := qAo.foot hRj (by omega)
    have hTf : qAq (fun W => qCc.rel W t [.int .u64 t.start, .int .u64 t.stop, .slice Arv t.reps.length crv]) (wr.alloc (.cells #[.int .u64 t.start, .int .u64 t.stop, .slice Arv t.reps.length crv] 74)) (fun k => (k < w.heap.size ∨ wc.heap.size <= k) /\ ¬ some k = tv.ownBlock) :=
     qAq.mono ((hFt.nw ((Nw.refl wr).alloc _)).imp (fun W hh => ⟨_, rfl, ht0, ht1, hh⟩)) (fun k _ e => by
      rcases e.1 with h | h
      · exact ⟨.inl h, fun e2 => by have := (hownT k e2.symm).1; omega⟩
      exact ⟨.inr (by omega), fun e2 => by have := (hownT k e2.symm).2; omega⟩)
    have hrt := qAo.snoc (T := qCc) (xs := x.times.take k) (y := t) (v := tv) (ok := fun k => k < w.heap.size ∨ wc.heap.size <= k) hr8 hrlT (fun i y r' hy hr' => ((HRGT.out i y r' hy hr').nw ((Nw.refl wr).alloc _)).mono (fun k _ e => e.1)) hTf hf8 ho8
    have hrl3 : rowsT.length = k := by rw [hrlT]; simp; omega
    rw [hrl3] at hrt
    go_roundg (x.times.length - (k + 1))
    case measure => rw [HN1.out]; omega
    exact ⟨k + 1, .slice Av (k + 1) cv, by omega, rfl, by go_num, Blk.setP1 hB8 14 _ _ rfl, by
     rw [HT.out]
     exact hrt.fr (Fr.self (p := ⟨g4, 14, none⟩) _) (fun j hj e => by have := (qAo.base hrt j hj).1; have e' : j = g4 := e; omega) (fun j hj hok e => by have e' : j = g4 := e; omega),
     Fr.setCell (S := fun k => k = g4) (p := ⟨g4, 14, none⟩) ((((hFk.trans (hFTr.mono (fun j _ e => .inr (by omega)))).alloc _).trans (hf8.mono (fun j _ e => .inr (hownT j e.symm).1)))) (.inl rfl) _⟩
  have hkn : k = x.times.length := by omega
  subst hkn
  rw [List.take_of_length_le (Nat.le_refl _)] at hTk
  have hTF : qAq (fun W => qCc.Sl W x.times tv) wr (fun k => (k < w.heap.size ∨ wc.heap.size <= k) /\ ¬ k = g4) := (qD1 hTk (by omega) (fun k e => e)).mono (fun k _ e => by omega)
  obtain ⟨Atv, ctv, rfl, _⟩ := qAo.form hTk
  have hwc : w.heap.size <= wc.heap.size := hW.size
  have hsT : wc.heap.size <= wr.heap.size := hFk.size
  have d15 : wr.cell? ⟨r1, 15, none⟩ = some (.slice A7 x.zones.length n7) := (HB1.out.nw hN).fr hFk hrg |>.cell 15 rfl
  have HTF := hid hTF
  clear hTF hTk
  obtain ⟨wX, hwX⟩ : ∃ wX, wX = wr := ⟨_, rfl⟩
  have hX0 : Fr (fun k => k = g4) wX wr := by rw [hwX]; exact Fr.refl _ _
  have HX := hid hwX
  have hFX : Fr (fun k => k = g4) wc wX := by rw [hwX]; exact hFk
  have hXX : wX.heap.size = wr.heap.size := by rw [hwX]
  have hXs : wc.heap.size <= wX.heap.size := hFX.size
  have HXX := hid hXX
  clear hwX hXX hFk
  go_wp2
  go_loopg [95] x.zones.length (fun n i wr => ∃ (k : Nat) (zv : Value), k <= x.zones.length /\ n = x.zones.length - k /\ i = .int .i64 k /\ Blk wr g4 [.int .i64 x.ver, .string x.org.user, .int .u64 x.org.id, .int .u64 x.org.ver, .string x.org.net, .string x.org.addr, .string x.org.adr, .string x.name, .slice A0 x.info.length n0, .slice A1 x.uri.length n1, .slice A2 x.email.length n2, .slice A3 x.phone.length n3, .slice B4 x.conn.length m4, .slice B5 x.bws.length m5, .slice Atv x.times.length ctv, zv, .slice A8 x.key.length n8, .slice B9 x.atts.length m9, .slice none 0 0] 43 /\ qAo qDt wr wX.heap.size 81 zv (x.zones.take k) (fun _ => False) /\ Fr (fun k => k = g4) wX wr)
  case atStart => exact ⟨0, .slice none 0 0, Nat.zero_le _, rfl, rfl, hBk, qAo.nil _ _ _ _ _, hX0⟩
  obtain ⟨k, zv, hk, hn, rfl, hBk, hZk, hFk⟩ := hrel
  have HN1 := hid hn
  clear hn
  have hFc : Fr (fun k => k = g4) wc wr := hFX.trans (hFk.mono (fun k _ e => .inl e))
  by_cases hlt : k < x.zones.length
  · obtain ⟨b, o', rfl, ha⟩ := Ty.Sl_at HM.out.zones k hlt
    obtain ⟨cs, ⟨rfl, hz0, hz1⟩, hx⟩ := ha k _ (List.getElem?_eq_getElem hlt)
    have hOld : ∀ (p : Addr) (u : Value), w.cell? p = some u -> wr.cell? p = some u := fun p u hc => hFc.cell (S := fun k => k = g4) (fun e => by have h1 := World.block_lt_of_cell? _ _ hc; have e' : p.block = g4 := e; omega) (hW.cell hc)
    have c0 := hOld _ _ (hx 0 _ rfl)
    have c1 := hOld _ _ (hx 1 _ rfl)
    simp only [qDt, Ty.flat, Nat.add_zero] at c0 c1
    have HT := hid (qAt hlt)
    clear hx ha hOld
    obtain ⟨t, hte⟩ : ∃ t, t = x.zones[k] := ⟨_, rfl⟩
    rw [<- hte] at c0 c1 hz0 hz1 HT
    clear hte
    go_upto_region 17 with fail
    obtain ⟨wC, hwC⟩ : ∃ wC, wC = wr.alloc (.cells #[.int .u64 t.time, .int .i64 t.off] 80) := ⟨_, rfl⟩
    obtain ⟨g9, hg9⟩ : ∃ g, g = wr.heap.size := ⟨_, rfl⟩
    have hqC : Nw wr wC := by rw [hwC]; exact (Nw.refl wr).alloc _
    have hG9 : Blk wC g9 [.int .u64 t.time, .int .i64 t.off] 80 := by rw [hwC, hg9]; exact Blk.made wr _ 80
    have hBC := hBk.nw hqC
    have hFC : Fr (fun k => k = g4) wX wC := hFk.trans (hqC.fr _)
    obtain ⟨rows, hrow, hrl, hrg2⟩ := hZk
    have hrowC := hrow.nw hqC
    have hown : ∀ k, zv.ownBlock = some k -> wX.heap.size <= k /\ k < wC.heap.size := fun k hk => ⟨(hrowC.base k hk).1, (hrowC.base k hk).2⟩
    have hneg : ¬ some g4 = zv.ownBlock := fun e => by have := (hown g4 e.symm).1; omega
    have hsC : wX.heap.size <= wC.heap.size := hFC.size
    have e0 := hG9.cell 0 rfl
    have e1 := hG9.cell 1 rfl
    have k15 := hBC.cell 15 rfl
    have hrls : rows.length <= 2147483647 := by rw [hrl]; simp; omega
    rw [<- hwC, <- hg9]
    have HG9 := hid hg9
    have HRG := hid hrg2
    clear hwC hg9 hrow hrg2 c0 c1
    go_wp2_with ((refine qAc rfl fun K hK => ?_; (with_reducible refine qAn wX.heap.size (.tmp 100) (.tmp 106) 39 81 2 (.agg #[.int .u64 0, .int .i64 0]) 16 ?_ underlying39 infz ?_ ?_ zv rows [.int .u64 t.time, .int .i64 t.off] ?_ wC.heap.size ?_ (zon1 t.time t.off) ?_ ?_ ?_ ?_ ?_ ?_); (focus rfl); (focus rfl); (focus decide); (focus rfl); (focus rfl); (focus (exact fun j u hu => Blk.cell (Blk.made wC [.int .u64 t.time, .int .i64 t.off] 81) j hu)); (focus (exact hrowC.alloc _)); (focus (simp; omega)); (focus omega); (focus omega); intro v6 w6 hr6 hf6 ho6; refine hK _ _ ?_); obtain ⟨Av, cv, rfl, _⟩ := hr6.form; simp only [List.length_append, length_cons, length_nil, Nat.zero_add] at hr6 ho6; have hB6 := (hBC.alloc _).fr hf6 hneg; have k6 := hB6.cell 15 rfl; have z6 := hB6.fz 15)
    have hrt := qAo.snoc (T := qDt) (xs := x.zones.take k) (y := t) (v := zv) (ok := fun _ => False) hr6 hrl (fun i y r' hy hr' W _ => (HRG.out i y r' hy hr').now) (fun W _ => ⟨rfl, hz0, hz1⟩) hf6 ho6
    have hrl3 : rows.length = k := by rw [hrl]; simp; omega
    rw [hrl3] at hrt
    go_roundg (x.zones.length - (k + 1))
    case measure => rw [HN1.out]; omega
    exact ⟨k + 1, .slice Av (k + 1) cv, by omega, rfl, by go_num, Blk.setP1 hB6 15 _ _ rfl, by
     rw [HT.out]
     exact hrt.fr (Fr.self (p := ⟨g4, 15, none⟩) _) (fun j hj e => by have := (qAo.base hrt j hj).1; have e' : j = g4 := e; omega) (fun j hj hok e => hok.elim),
     Fr.setCell (S := fun k => k = g4) (p := ⟨g4, 15, none⟩) ((hFC.alloc _).trans (hf6.mono (fun k _ e => .inr (hown k e.symm).1))) (.inl rfl) _⟩
  have hkn : k = x.zones.length := by omega
  subst hkn
  rw [List.take_of_length_le (Nat.le_refl _)] at hZk
  have hZF : qAq (fun W => qDt.Sl W x.zones zv) wr (fun k => (k < w.heap.size ∨ wc.heap.size <= k) /\ ¬ k = g4) := (qD1 (n0 := 0) hZk (by omega) (fun k e => e.elim)).mono (fun k _ e => by omega)
  obtain ⟨Azv, czv, rfl, _⟩ := qAo.form hZk
  have hsX : wX.heap.size <= wr.heap.size := hFk.size
  have d18 : wr.cell? ⟨r1, 18, none⟩ = some (.slice A10 x.media.length n10) := ((HB1.out.nw hN).fr hFc hrg).cell 18 rfl
  have hTF2 : qAq (fun W => qCc.Sl W x.times (.slice Atv x.times.length ctv)) wr (fun k => (k < w.heap.size ∨ wc.heap.size <= k) /\ ¬ k = g4) := by
   have h1 := HTF.out
   rw [<- HX.out] at h1
   exact (h1.fr hFk (fun k hk hok e => hok.2 e)).mono (fun k _ e => e.1)
  have HTZ := hid (hTF2.and hZF)
  clear hTF2 hZF hZk HTF
  obtain ⟨wY, hwY⟩ : ∃ wY, wY = wr := ⟨_, rfl⟩
  have hY0 : Fr (fun k => k = g4) wY wr := by rw [hwY]; exact Fr.refl _ _
  have HY := hid hwY
  have hFY : Fr (fun k => k = g4) wc wY := by rw [hwY]; exact hFc
  have hYs : wc.heap.size <= wY.heap.size := hFY.size
  clear hwY hFk hFc hX0 HX HXX
  go_wp2
  go_loopg [113] x.media.length (fun n i wr => ∃ (k : Nat) (mv : Value), k <= x.media.length /\ n = x.media.length - k /\ i = .int .i64 k /\ Blk wr g4 [.int .i64 x.ver, .string x.org.user, .int .u64 x.org.id, .int .u64 x.org.ver, .string x.org.net, .string x.org.addr, .string x.org.adr, .string x.name, .slice A0 x.info.length n0, .slice A1 x.uri.length n1, .slice A2 x.email.length n2, .slice A3 x.phone.length n3, .slice B4 x.conn.length m4, .slice B5 x.bws.length m5, .slice Atv x.times.length ctv, .slice Azv x.zones.length czv, .slice A8 x.key.length n8, .slice B9 x.atts.length m9, mv] 43 /\ qAo qEj wr wY.heap.size 86 mv (x.media.take k) (fun k => k < w.heap.size ∨ wY.heap.size <= k) /\ Fr (fun k => k = g4) wY wr)
  case atStart => exact ⟨0, .slice none 0 0, Nat.zero_le _, rfl, rfl, hBk, qAo.nil _ _ _ _ _, hY0⟩
  obtain ⟨k, mv, hk, hn, rfl, hBk, hMk, hFk⟩ := hrel
  have HN1 := hid hn
  clear hn
  have hFc : Fr (fun k => k = g4) wc wr := hFY.trans (hFk.mono (fun k _ e => .inl e))
  by_cases hlt : k < x.media.length
  · obtain ⟨b, o', rfl, ha⟩ := Ty.Sl_at HM.out.media k hlt
    obtain ⟨cs, ⟨p0, p1, p2, p3, p4, p5, p6, p7, rfl, mt⟩, hx⟩ := ha k _ (List.getElem?_eq_getElem hlt)
    obtain ⟨D0, e0, rfl⟩ := Ty.Sl_form mt.ports
    obtain ⟨D1, e1, rfl⟩ := Ty.Sl_form mt.protos
    obtain ⟨D2, e2, rfl⟩ := Ty.Sl_form mt.fmts
    obtain ⟨D3, e3, rfl⟩ := Ty.Sl_form mt.title
    obtain ⟨D4, e4, rfl⟩ := Ty.Sl_form mt.conn
    obtain ⟨D5, e5, rfl⟩ := Ty.Sl_form mt.bws
    obtain ⟨D6, e6, rfl⟩ := Ty.Sl_form mt.key
    obtain ⟨D7, e7, rfl⟩ := Ty.Sl_form mt.atts
    have hOld : ∀ (p : Addr) (u : Value), w.cell? p = some u -> wr.cell? p = some u := fun p u hc => hFc.cell (S := fun k => k = g4) (fun e => by have h1 := World.block_lt_of_cell? _ _ hc; have e' : p.block = g4 := e; omega) (hW.cell hc)
    have c0 := hOld _ _ (hx 0 _ rfl)
    have c1 := hOld _ _ (hx 1 _ rfl)
    have c2 := hOld _ _ (hx 2 _ rfl)
    have c3 := hOld _ _ (hx 3 _ rfl)
    have c4 := hOld _ _ (hx 4 _ rfl)
    have c5 := hOld _ _ (hx 5 _ rfl)
    have c6 := hOld _ _ (hx 6 _ rfl)
    have c7 := hOld _ _ (hx 7 _ rfl)
    have c8 := hOld _ _ (hx 8 _ rfl)
    have c9 := hOld _ _ (hx 9 _ rfl)
    simp only [qEj, Nat.add_zero] at c0 c1 c2 c3 c4 c5 c6 c7 c8 c9
    have HT := hid (qAt hlt)
    have hlk := HLM.out _ (List.getElem_mem hlt)
    have hjl : (x.media.take k).length <= k := by simp; omega
    clear hx ha hOld
    obtain ⟨t, hte⟩ : ∃ t, t = x.media[k] := ⟨_, rfl⟩
    rw [<- hte] at c0 c1 c2 c3 c4 c5 c6 c7 c8 c9 HT hlk mt
    have MT := hid mt
    clear hte mt
    have hWr : Nw w wr := hW.frIn hFc (fun k e => by rw [e]; omega)
    go_upto_region 22 with fail
    obtain ⟨wC, hwC⟩ : ∃ wC, wC = wr.alloc (.cells #[.string t.name, .int .i64 t.port, .slice D0 t.ports.length e0, .slice D1 t.protos.length e1, .slice D2 t.fmts.length e2, .slice D3 t.title.length e3, .slice D4 t.conn.length e4, .slice D5 t.bws.length e5, .slice D6 t.key.length e6, .slice D7 t.atts.length e7] 84) := ⟨_, rfl⟩
    obtain ⟨gm, hgm⟩ : ∃ g, g = wr.heap.size := ⟨_, rfl⟩
    have hqC : Nw wr wC := by rw [hwC]; exact (Nw.refl wr).alloc _
    have hGm : Blk wC gm [.string t.name, .int .i64 t.port, .slice D0 t.ports.length e0, .slice D1 t.protos.length e1, .slice D2 t.fmts.length e2, .slice D3 t.title.length e3, .slice D4 t.conn.length e4, .slice D5 t.bws.length e5, .slice D6 t.key.length e6, .slice D7 t.atts.length e7] 84 := by rw [hwC, hgm]; exact Blk.made wr _ 84
    have hBC := hBk.nw hqC
    have hWC : Nw w wC := hWr.trans hqC
    have hFC : Fr (fun k => k = g4) wY wC := hFk.trans (hqC.fr _)
    obtain ⟨rows, hrow, hrl, hrg2⟩ := hMk
    have hrowC := hrow.nw hqC
    have hown : ∀ k, mv.ownBlock = some k -> wY.heap.size <= k /\ k < wr.heap.size := fun k hk => hrow.base k hk
    have hneg : ¬ some g4 = mv.ownBlock := fun e => by have := (hown g4 e.symm).1; omega
    have hgmw : wr.heap.size = gm := hgm.symm
    have hnegm : ¬ some gm = mv.ownBlock := fun e => by have := (hown gm e.symm).2; omega
    have hsC : wY.heap.size <= wC.heap.size := hFC.size
    have hsr : wr.heap.size <= wC.heap.size := hqC.size
    have hrls : rows.length <= 2147483647 := by rw [hrl]; omega
    have kM := hBC.cell 18 rfl
    rw [<- hwC, <- hgm]
    have HGM := hid hgm
    have HGW := hid hgmw
    have HRG := hid hrg2
    clear hwC hgm hgmw hrow hrg2 c0 c1 c2 c3 c4 c5 c6 c7 c8 c9
    refine qAv 29 (fun w' => w'.cell? ⟨gm, 0, none⟩ = some (.string t.name) /\ w'.cell? ⟨gm, 1, none⟩ = some (.int .i64 t.port) /\ w'.cell? ⟨gm, 2, none⟩ = some (.slice D0 t.ports.length e0) /\ w'.cell? ⟨gm, 3, none⟩ = some (.slice D1 t.protos.length e1) /\ w'.cell? ⟨gm, 4, none⟩ = some (.slice D2 t.fmts.length e2) /\ w'.cell? ⟨gm, 5, none⟩ = some (.slice D3 t.title.length e3) /\ w'.cell? ⟨gm, 6, none⟩ = some (.slice D4 t.conn.length e4) /\ w'.cell? ⟨gm, 7, none⟩ = some (.slice D5 t.bws.length e5) /\ w'.cell? ⟨gm, 8, none⟩ = some (.slice D6 t.key.length e6) /\ w'.cell? ⟨gm, 9, none⟩ = some (.slice D7 t.atts.length e7) /\ w'.cell? ⟨g4, 18, none⟩ = some mv) (by kernel_rfl) ⟨hGm.cell 0 rfl, hGm.cell 1 rfl, hGm.cell 2 rfl, hGm.cell 3 rfl, hGm.cell 4 rfl, hGm.cell 5 rfl, hGm.cell 6 rfl, hGm.cell 7 rfl, hGm.cell 8 rfl, hGm.cell 9 rfl, kM⟩ (fun hHeld => ?_)
    refine' tkA 0 [29] (by assumption) ?_
    try simp only [sP]
    refine' tkA 1 [29] (by assumption) ?_
    try simp only [sP]
    refine' tkA 2 [29] (by assumption) ?_
    try simp only [sP]
    refine' tkA 3 [29] (by assumption) ?_
    try simp only [sP]
    refine' tkA 4 [29] (by assumption) ?_
    try simp only [sP]
    refine' tkA 5 [29] (by assumption) ?_
    try simp only [sP]
    refine' tkA 6 [29] (by assumption) ?_
    try simp only [sP]
    refine' tkA 7 [29] (by assumption) ?_
    try simp only [sP]
    refine' tkA 8 [29] (by assumption) ?_
    try simp only [sP]
    refine' tkA 9 [29] (by assumption) ?_
    try simp only [sP]
    refine' tkA 10 [29] (by assumption) ?_
    try simp only [sP]
    refine' tkA 11 [29] (by assumption) ?_
    try simp only [sP]
    refine' tkA 12 [29] (by assumption) ?_
    try simp only [sP]
    refine' tkA 13 [29] (by assumption) ?_
    try simp only [sP]
    refine' tkA 14 [29] (by assumption) ?_
    try simp only [sP]
    refine' tkA 15 [29] (by assumption) ?_
    try simp only [sP]
    refine' tkA 17 [29] (by assumption) ?_
    try simp only [sP]
    refine' tkA 18 [29] (by assumption) ?_
    try simp only [sP]
    refine' tkA 20 [29] (by assumption) ?_
    try simp only [sP]
    refine' tkA 21 [29] (by assumption) ?_
    try simp only [sP]
    refine' tkA 22 [29] (by assumption) ?_
    try simp only [sP]
    refine' tkA 23 [29] (by assumption) ?_
    try simp only [sP]
    refine' qB9 16 (by kernel_rfl) rfl (by decide) (fun K hK => ?_)
    (go_simp; go_at_call 28; (with_reducible refine (qFi t.conn _ w _ (Nw.trans hWC ((Nw.refl wC).drew)) MT.out.conn hlk.1 hlk.2.2.2).mono ?_); rintro e z0 ⟨t0, rfl, hs0, hn0⟩; have hp0 : Nw wC z0 := (by exact Nw.trans ((Nw.refl wC).drew) hn0); obtain ⟨C0, k0, rfl, _⟩ := qAo.form hs0)
    refine hK.out _ _ ?_ (fun hHeld16 => ?_)
    · exact ⟨(hGm.nw hp0).cell 0 rfl, (hGm.nw hp0).cell 1 rfl, (hGm.nw hp0).cell 2 rfl, (hGm.nw hp0).cell 3 rfl, (hGm.nw hp0).cell 4 rfl, (hGm.nw hp0).cell 5 rfl, (hGm.nw hp0).cell 6 rfl, (hGm.nw hp0).cell 7 rfl, (hGm.nw hp0).cell 8 rfl, (hGm.nw hp0).cell 9 rfl, (hp0).cell kM⟩
    clear hK K
    (try simp only [sP])
    refine' qB9 19 (by kernel_rfl) rfl (by decide) (fun K hK => ?_)
    (go_simp; go_at_call 29; (with_reducible refine (qGc t.bws _ _ (Ty.Sl_loc (Nw.block (w := w) (Nw.trans hWC hp0)) MT.out.bws) hlk.2.1).mono ?_); rintro e z1 ⟨t1, rfl, hs1, hn1⟩; have hp1 : Nw wC z1 := hp0.trans hn1; obtain ⟨C1, k1, rfl, _⟩ := qAo.form hs1)
    refine hK.out _ _ ?_ (fun hHeld19 => ?_)
    · exact ⟨(hGm.nw hp1).cell 0 rfl, (hGm.nw hp1).cell 1 rfl, (hGm.nw hp1).cell 2 rfl, (hGm.nw hp1).cell 3 rfl, (hGm.nw hp1).cell 4 rfl, (hGm.nw hp1).cell 5 rfl, (hGm.nw hp1).cell 6 rfl, (hGm.nw hp1).cell 7 rfl, (hGm.nw hp1).cell 8 rfl, (hGm.nw hp1).cell 9 rfl, (hp1).cell kM⟩
    clear hK K
    (try simp only [sP])
    refine' qB9 24 (by kernel_rfl) rfl (by decide) (fun K hK => ?_)
    (go_simp; go_at_call 30; (with_reducible refine (qGb t.atts _ _ (Ty.Sl_loc (Nw.block (w := w) (Nw.trans hWC hp1)) MT.out.atts) hlk.2.2.1).mono ?_); rintro e z2 ⟨t2, rfl, hs2, hn2⟩; have hp2 : Nw wC z2 := hp1.trans hn2; have hsz2 := hp2.size; have hsz1 := hp1.size; have hsz0 := hp0.size; obtain ⟨C2, k2, rfl, _⟩ := qAo.form hs2)
    refine hK.out _ _ ?_ (fun hHeld24 => ?_)
    · exact ⟨(hGm.nw hp2).cell 0 rfl, (hGm.nw hp2).cell 1 rfl, (hGm.nw hp2).cell 2 rfl, (hGm.nw hp2).cell 3 rfl, (hGm.nw hp2).cell 4 rfl, (hGm.nw hp2).cell 5 rfl, (hGm.nw hp2).cell 6 rfl, (hGm.nw hp2).cell 7 rfl, (hGm.nw hp2).cell 8 rfl, (hGm.nw hp2).cell 9 rfl, (hp2).cell kM⟩
    clear hK K
    (try simp only [sP])
    refine' qB9 25 (by kernel_rfl) rfl (by decide) (fun K hK => ?_)
    (refine qA3 rfl ?_; (refine qK8 86 _ [(0, .string t.name), (1, .int .i64 t.port), (2, .slice D0 t.ports.length e0), (3, .slice D1 t.protos.length e1), (4, .slice D2 t.fmts.length e2), (5, .slice D3 t.title.length e3), (6, .slice C0 t.conn.length k0), (7, .slice C1 t.bws.length k1), (8, .slice D6 t.key.length e6), (9, .slice C2 t.atts.length k2)] _ rfl (by simp [Act.eval]) (built86 _ _ _ _ _ _ _ _ _ _ _ _ _ _ _ _ _ _ _ _ _ _ _ _ _ _) ?_))
    refine hK.out _ _ ?_ (fun hHeld25 => ?_)
    · exact ⟨(hGm.nw hp2).cell 0 rfl, (hGm.nw hp2).cell 1 rfl, (hGm.nw hp2).cell 2 rfl, (hGm.nw hp2).cell 3 rfl, (hGm.nw hp2).cell 4 rfl, (hGm.nw hp2).cell 5 rfl, (hGm.nw hp2).cell 6 rfl, (hGm.nw hp2).cell 7 rfl, (hGm.nw hp2).cell 8 rfl, (hGm.nw hp2).cell 9 rfl, (hp2).cell kM⟩
    clear hK K
    (try simp only [sP])
    refine' qB9 26 (by kernel_rfl) rfl (by decide) (fun K hK => ?_)
    (refine qA3 rfl ?_; (refine wp_one86 (.tmp 142) rfl _ _ _ _ _ _ _ _ _ _ _ _ _ _ _ _ _ _ _ _ _ _ _ _ _ _ rfl ?_))
    refine hK.out _ _ ?_ (fun hHeld26 => ?_)
    · exact ⟨(hGm.nw (hp2.alloc _)).cell 0 rfl, (hGm.nw (hp2.alloc _)).cell 1 rfl, (hGm.nw (hp2.alloc _)).cell 2 rfl, (hGm.nw (hp2.alloc _)).cell 3 rfl, (hGm.nw (hp2.alloc _)).cell 4 rfl, (hGm.nw (hp2.alloc _)).cell 5 rfl, (hGm.nw (hp2.alloc _)).cell 6 rfl, (hGm.nw (hp2.alloc _)).cell 7 rfl, (hGm.nw (hp2.alloc _)).cell 8 rfl, (hGm.nw (hp2.alloc _)).cell 9 rfl, ((hp2.alloc _)).cell kM⟩
    clear hK K
    (try simp only [sP])
    refine' qB9 27 (by kernel_rfl) rfl (by decide) (fun K hK => ?_)
    ((refine qA3 rfl ?_; (with_reducible refine qAn wY.heap.size (.tmp 118) (.tmp 143) 41 86 10 (.agg #[.string ⟨#[]⟩, .int .i64 0, .slice none 0 0, .slice none 0 0, .slice none 0 0, .slice none 0 0, .slice none 0 0, .slice none 0 0, .slice none 0 0, .slice none 0 0]) 216 ?_ underlying41 infm ?_ ?_ mv rows [.string t.name, .int .i64 t.port, .slice D0 t.ports.length e0, .slice D1 t.protos.length e1, .slice D2 t.fmts.length e2, .slice D3 t.title.length e3, .slice C0 t.conn.length k0, .slice C1 t.bws.length k1, .slice D6 t.key.length e6, .slice C2 t.atts.length k2] ?_ z2.heap.size ?_ (med1 _ _ _ _ _ _ _ _ _ _ _ _ _ _ _ _ _ _ _ _ _ _ _ _ _ _) ?_ ?_ ?_ ?_ ?_ ?_); (focus rfl); (focus rfl); (focus decide); (focus rfl); (focus rfl); (focus (exact fun j u hu => Blk.cell (Blk.made z2 [.string t.name, .int .i64 t.port, .slice D0 t.ports.length e0, .slice D1 t.protos.length e1, .slice D2 t.fmts.length e2, .slice D3 t.title.length e3, .slice C0 t.conn.length k0, .slice C1 t.bws.length k1, .slice D6 t.key.length e6, .slice C2 t.atts.length k2] 86) j hu)); (focus (exact (hrowC.nw hp2).alloc _)); (focus (simp; omega)); (focus omega); (focus omega); intro v6 w6 hr6 hf6 ho6); obtain ⟨Av, cv, rfl, _⟩ := hr6.form; simp only [List.length_append, length_cons, length_nil, Nat.zero_add] at hr6 ho6; have hB6 := ((hBC.nw hp2).alloc _).fr hf6 hneg; have hGm6 := ((hGm.nw hp2).alloc _).fr hf6 hnegm)
    refine hK.out _ _ ?_ (fun hHeld27 => ?_)
    · exact ⟨hGm6.cell 0 rfl, hGm6.cell 1 rfl, hGm6.cell 2 rfl, hGm6.cell 3 rfl, hGm6.cell 4 rfl, hGm6.cell 5 rfl, hGm6.cell 6 rfl, hGm6.cell 7 rfl, hGm6.cell 8 rfl, hGm6.cell 9 rfl, hB6.cell 18 rfl⟩
    clear hK K
    (try simp only [sP])
    have z6 := hB6.fz 18
    have k6 := hB6.cell 18 rfl
    refine' tkA 28 [29] (by assumption) ?_
    try simp only [sP]
    refine' qBr (by kernel_rfl) rfl (by kernel_rfl) (fun K hK => ?_)
    go_simp
    refine hK.out _ _ ?_
    clear hK K
    have hXm : Fr (fun k => k = g4) wr (z2.alloc (.cells #[.string t.name, .int .i64 t.port, .slice D0 t.ports.length e0, .slice D1 t.protos.length e1, .slice D2 t.fmts.length e2, .slice D3 t.title.length e3, .slice C0 t.conn.length k0, .slice C1 t.bws.length k1, .slice D6 t.key.length e6, .slice C2 t.atts.length k2] 86)) := ((hqC.trans hp2).alloc _).fr _
    have hFm : qAq (fun W => qEj.rel W t [.string t.name, .int .i64 t.port, .slice D0 t.ports.length e0, .slice D1 t.protos.length e1, .slice D2 t.fmts.length e2, .slice D3 t.title.length e3, .slice C0 t.conn.length k0, .slice C1 t.bws.length k1, .slice D6 t.key.length e6, .slice C2 t.atts.length k2]) (z2.alloc (.cells #[.string t.name, .int .i64 t.port, .slice D0 t.ports.length e0, .slice D1 t.protos.length e1, .slice D2 t.fmts.length e2, .slice D3 t.title.length e3, .slice C0 t.conn.length k0, .slice C1 t.bws.length k1, .slice D6 t.key.length e6, .slice C2 t.atts.length k2] 86)) (fun k => (k < w.heap.size ∨ wY.heap.size <= k) /\ ¬ some k = mv.ownBlock) := by
     have hq : Nw w (z2.alloc (.cells #[.string t.name, .int .i64 t.port, .slice D0 t.ports.length e0, .slice D1 t.protos.length e1, .slice D2 t.fmts.length e2, .slice D3 t.title.length e3, .slice C0 t.conn.length k0, .slice C1 t.bws.length k1, .slice D6 t.key.length e6, .slice C2 t.atts.length k2] 86)) := (hWC.trans hp2).alloc _
     have r0 := (qD1 hs0 (by omega) (fun k e => e)).nw (((hn1.trans hn2).alloc (.cells #[.string t.name, .int .i64 t.port, .slice D0 t.ports.length e0, .slice D1 t.protos.length e1, .slice D2 t.fmts.length e2, .slice D3 t.title.length e3, .slice C0 t.conn.length k0, .slice C1 t.bws.length k1, .slice D6 t.key.length e6, .slice C2 t.atts.length k2] 86)))
     have r1 := (qD1 (n0 := 0) (qAo.reok qMx hs1 (fun _ => False)) (by omega) (fun k e => e.elim)).nw ((hn2.alloc (.cells #[.string t.name, .int .i64 t.port, .slice D0 t.ports.length e0, .slice D1 t.protos.length e1, .slice D2 t.fmts.length e2, .slice D3 t.title.length e3, .slice C0 t.conn.length k0, .slice C1 t.bws.length k1, .slice D6 t.key.length e6, .slice C2 t.atts.length k2] 86)))
     have r2 := (qD1 (n0 := 0) (qAo.reok qMy hs2 (fun _ => False)) (by omega) (fun k e => e.elim)).nw ((Nw.refl z2).alloc (.cells #[.string t.name, .int .i64 t.port, .slice D0 t.ports.length e0, .slice D1 t.protos.length e1, .slice D2 t.fmts.length e2, .slice D3 t.title.length e3, .slice C0 t.conn.length k0, .slice C1 t.bws.length k1, .slice D6 t.key.length e6, .slice C2 t.atts.length k2] 86))
     intro W hW2
     have hold : ∀ k, k < w.heap.size -> W.heap[k]? = w.heap[k]? := fun k hk => (hW2 k ⟨.inl hk, fun e => by have := (hown k e.symm).1; omega⟩ (Nat.lt_of_lt_of_le hk hq.size)).trans (hq.block k hk)
     have hnew : ∀ k, (k < w.heap.size ∨ wC.heap.size <= k) -> k < (z2.alloc (.cells #[.string t.name, .int .i64 t.port, .slice D0 t.ports.length e0, .slice D1 t.protos.length e1, .slice D2 t.fmts.length e2, .slice D3 t.title.length e3, .slice C0 t.conn.length k0, .slice C1 t.bws.length k1, .slice D6 t.key.length e6, .slice C2 t.atts.length k2] 86)).heap.size -> W.heap[k]? = (z2.alloc (.cells #[.string t.name, .int .i64 t.port, .slice D0 t.ports.length e0, .slice D1 t.protos.length e1, .slice D2 t.fmts.length e2, .slice D3 t.title.length e3, .slice C0 t.conn.length k0, .slice C1 t.bws.length k1, .slice D6 t.key.length e6, .slice C2 t.atts.length k2] 86)).heap[k]? := fun k hk hlt => hW2 k ⟨hk.imp id (fun e => by omega), fun e => by have := hown k e.symm; omega⟩ hlt
     exact ⟨_, _, _, _, _, _, _, _, rfl, MT.out.name, MT.out.port, Ty.Sl_loc hold MT.out.ports, Ty.Sl_loc hold MT.out.protos, Ty.Sl_loc hold MT.out.fmts, Ty.Sl_loc hold MT.out.title, r0 W (fun k hk hlt => hnew k hk.1 hlt), r1 W (fun k hk hlt => hnew k (.inr (by have := hk.1; omega)) hlt), Ty.Sl_loc hold MT.out.key, r2 W (fun k hk hlt => hnew k (.inr (by have := hk.1; omega)) hlt)⟩
    have hrt := qAo.snoc (T := qEj) (xs := x.media.take k) (y := t) (v := mv) (ok := fun k => k < w.heap.size ∨ wY.heap.size <= k) hr6 hrl (fun i y r' hy hr' => ((HRG.out i y r' hy hr').nw ((hqC.trans hp2).alloc _)).mono (fun k _ e => e.1)) hFm hf6 ho6
    have hrl3 : rows.length = k := by rw [hrl]; simp; omega
    rw [hrl3] at hrt
    go_wp2
    go_roundg (x.media.length - (k + 1))
    case measure => rw [HN1.out]; omega
    exact ⟨k + 1, .slice Av (k + 1) cv, by omega, rfl, by go_num, Blk.setP1 hB6 18 _ _ rfl, by
     rw [HT.out]
     exact hrt.fr (Fr.self (p := ⟨g4, 18, none⟩) _) (fun j hj e => by have := (qAo.base hrt j hj).1; have e' : j = g4 := e; omega) (fun j hj hok e => by have e' : j = g4 := e; omega),
     Fr.setCell (S := fun k => k = g4) (p := ⟨g4, 18, none⟩) (((hFC.trans (hp2.fr _)).alloc _).trans (hf6.mono (fun k _ e => .inr (hown k e.symm).1))) (.inl rfl) _⟩
  have hkn : k = x.media.length := by omega
  subst hkn
  rw [List.take_of_length_le (Nat.le_refl _)] at hMk
  have hwc : w.heap.size <= wc.heap.size := hW.size
  have hMF : qAq (fun W => qEj.Sl W x.media mv) wr (fun k => (k < w.heap.size ∨ wc.heap.size <= k) /\ ¬ k = g4) := (qD1 hMk (by omega) (fun k e => e)).mono (fun k _ e => by omega)
  obtain ⟨Amv, cmv, rfl, _⟩ := qAo.form hMk
  have hTZ9 := HTZ.out
  rw [<- HY.out] at hTZ9
  have hTZr := (hTZ9.fr hFk (fun k hk hok e => hok.2 e))
  have e1 := H1.out
  have e0 := H0.out
  have eo := HO.out
  have en := HN.out
  have hsr : wc.heap.size <= wr.heap.size := hFc.size
  have hRr : Blk wr r0 [.int .i64 0, .string ⟨#[]⟩, .int .u64 0, .int .u64 0, .string ⟨#[]⟩, .string ⟨#[]⟩, .string ⟨#[]⟩, .string ⟨#[]⟩, .slice none 0 0, .slice none 0 0, .slice none 0 0, .slice none 0 0, .slice none 0 0, .slice none 0 0, .slice none 0 0, .slice none 0 0, .slice none 0 0, .slice none 0 0, .slice none 0 0] 43 := (HB0.out.nw hN).fr hFc (fun e => by omega)
  have hWr : Nw w wr := hW.frIn hFc (fun k e => by rw [e]; omega)
  have E1 := hid e1
  have E0 := hid e0
  have EO := hid eo
  have EN := hid en
  clear e1 e0 eo en hTZ9
  go_upto_region 24 with fail
  rename_i K1 hK1
  apply wp_region_lit
  refine wpList_load_row rfl 43 (.tmp 4) rfl g4 rfl 43 _ (0, 0) _ hBk underlying43 rfl (by kernel_rfl) ?_
  refine wpList_store_row rfl 43 (.tmp 2) (.tmp 147) rfl r0 _ rfl rfl 43 _ hRr (by kernel_rfl) rfl (by first | kernel_rfl | simp [Value.oneCell']) ?_
  apply wpList_nil
  refine hK1 _ _ ?_
  obtain ⟨w9, hw9⟩ : ∃ w9, w9 = wr.setRow r0 ([.int .i64 x.ver, .string x.org.user, .int .u64 x.org.id, .int .u64 x.org.ver, .string x.org.net, .string x.org.addr, .string x.org.adr, .string x.name, .slice A0 x.info.length n0, .slice A1 x.uri.length n1, .slice A2 x.email.length n2, .slice A3 x.phone.length n3, .slice B4 x.conn.length m4, .slice B5 x.bws.length m5, .slice Atv x.times.length ctv, .slice Azv x.zones.length czv, .slice A8 x.key.length n8, .slice B9 x.atts.length m9, .slice Amv x.media.length cmv] : List Value).toArray := ⟨_, rfl⟩
  have hR9 : Blk w9 r0 [.int .i64 x.ver, .string x.org.user, .int .u64 x.org.id, .int .u64 x.org.ver, .string x.org.net, .string x.org.addr, .string x.org.adr, .string x.name, .slice A0 x.info.length n0, .slice A1 x.uri.length n1, .slice A2 x.email.length n2, .slice A3 x.phone.length n3, .slice B4 x.conn.length m4, .slice B5 x.bws.length m5, .slice Atv x.times.length ctv, .slice Azv x.zones.length czv, .slice A8 x.key.length n8, .slice B9 x.atts.length m9, .slice Amv x.media.length cmv] 43 := by rw [hw9]; exact qBp hRr
  have hF9 : Fr (fun k => k = r0) wr w9 := by rw [hw9]; exact qEv _ _ _
  rw [<- hw9]
  clear hw9
  have hFa : Fr (fun k => k = g4 ∨ k = r0) wc w9 := (hFc.mono (fun k _ e => .inl e)).trans (hF9.mono (fun k _ e => .inl (.inr e)))
  have e1 := E1.out
  have e0 := E0.out
  have eo := EO.out
  have en := EN.out
  have hmv : ∀ {Q : World -> Prop}, qAq Q wc (fun k => (k < w.heap.size ∨ w0.heap.size <= k) /\ ¬ k = g4) -> Q w9 := fun h => (h.fr hFa (fun k hk hok e => by rcases e with e | e <;> omega)).now
  have hmr : ∀ {Q : World -> Prop}, qAq Q wr (fun k => (k < w.heap.size ∨ wc.heap.size <= k) /\ ¬ k = g4) -> Q w9 := fun h => (h.fr hF9 (fun k hk hok e => by omega)).now
  have hW9 : Nw w w9 := hWr.frIn hF9 (fun k e => by rw [e]; omega)
  have hTZ := hmr (hTZr.mono (fun k _ e => e.1))
  have hMM := hmr hMF
  have hCC := hmv F4
  have hBB := hmv F5
  have hAA := hmv F9
  have R9 : Hid (qIx w9 x (.agg #[.int .i64 x.ver, .string x.org.user, .int .u64 x.org.id, .int .u64 x.org.ver, .string x.org.net, .string x.org.addr, .string x.org.adr, .string x.name, .slice A0 x.info.length n0, .slice A1 x.uri.length n1, .slice A2 x.email.length n2, .slice A3 x.phone.length n3, .slice B4 x.conn.length m4, .slice B5 x.bws.length m5, .slice Atv x.times.length ctv, .slice Azv x.zones.length czv, .slice A8 x.key.length n8, .slice B9 x.atts.length m9, .slice Amv x.media.length cmv]) /\ Nw w w9) := hid ⟨⟨_, _, _, _, _, _, _, _, _, _, _, rfl, ⟨HM.out.ver, HM.out.user, HM.out.oid, HM.out.over, HM.out.onet, HM.out.oaddr, HM.out.oadr, HM.out.name, Ty.Sl_loc hW9.block HM.out.info, Ty.Sl_loc hW9.block HM.out.uri, Ty.Sl_loc hW9.block HM.out.email, Ty.Sl_loc hW9.block HM.out.phone, hCC, hBB, hTZ.1, hTZ.2, Ty.Sl_loc hW9.block HM.out.key, hAA, hMM⟩⟩, hW9⟩
  clear e1 e0 eo en hmv hmr hTZ hMM hCC hBB hAA
  go_wp2
  refine bodyPost_ret (results_cell_row (fn := f9) rfl _ _ r0 43 _ (0, 0) _ rfl hR9 underlying43 rfl (by kernel_rfl)) rfl ?_
  exact ⟨_, rfl, R9.out.1, R9.out.2⟩
end Go.Proofs.YtcepdjlknalmnaaGreatDoor

/- Laws of this claim. -/
import Derived.Test.YtcepdjlknalmnaaGreatDoorMain
import Derived.Test.YtcepdjlknalmnaaGreatDoorSrow
import Derived.Defers
import Derived.Recover
import Derived.Lib.AppendStr
import Derived.Lib.AppendIntMem
import Derived.Lib.OthersKept
import Derived.Laws.IdiomStrings
import Derived.Laws.BytesArg
import Derived.Test.YtcepdjlknalmnaaGreatDoorBuf
set_option linter.unusedSimpArgs false
set_option linter.unusedVariables false
namespace Go.Proofs.YtcepdjlknalmnaaGreatDoor
open Tryz
open Lib (hid byteCells)
open Go.RowKit
attribute [local go_sem ↓] Go.wp_at_zero Go.wp_at_succ
theorem enters47 (args : Array Value) (w : World) : (callFunc 47 args).run prog w = .ok (.enter 47 args) w := by kernel_rfl
theorem qQp (w : World) : (binOp .eql 118 .nilIface .nilIface).run prog w = .ok (.bool true) w := by kernel_rfl
theorem eql_err (v : Value) (w : World) : (binOp .eql 118 (.iface 250 v) .nilIface).run prog w = .ok (.bool false) w := by kernel_rfl
theorem qJk (p : Addr) (w : World) :
 CallsD prog 62 #[.pointer (some p)] .returning w fun e u' w' => e = .returned (.tuple #[]) /\ u' = .returning /\ w' = w := by
 refine callsD_of_wpS func62 rfl fun c₀ cs hu => ?_
 apply wpS_seq
 apply wpS_region
 simp [wpOpsS, go_sem, recoverD, hu, ntmps62, Exit.thenS]
 refine wpS_cond (t := false) (by simp [Act.eval, Array.replicate]) ?_
 simp only [Bool.false_eq_true, if_false]
 refine wpS_of_wp (wp_skip ?_)
 cases c₀
 simp_all [bodyPostS, results, results62]
theorem par_47 (P : World -> Prop) (w : World) (D tx : Nat) (s : ByteArray) (e tl : List UInt8) (ls : List Ln) (a : Addr) (hD : Blk w D qQl 115) (hP : qAq P w (fun k => ¬ k = D)) (hD0 : 0 < D) (htx : w.cell? ⟨tx, 0, none⟩ = some (.string s)) (hs : qAb s) (hE : Eof w a) (he : qI2 e) (htl : TlOk tl) (hseg : Seg s 0 (qAm e (ls.map Ln.text) ++ tl)) (hsz : (qAm e (ls.map Ln.text) ++ tl).length = s.size)
 (hp : path 1 ls) (hok : ∀ l ∈ ls, qJ0 l /\ StOk l) (hw : wts ls <= 1000) :
 Calls prog 47 #[.pointer (some ⟨D, 0, none⟩), .pointer (some ⟨tx, 0, none⟩)] w fun ed w' => (Fr (fun k => D <= k) w w' /\ P w') /\ ((tl = [] /\ ed = .returned (.bool true) /\ qN5 w' D (Pst.zero.apps ls).fin) ∨ (tl ≠ [] /\ ed = .returned (.bool false))) := by
 have HC := hid (par_unm P w D s e tl ls a hD hP hD0 hs hE he htl hseg hsz hp hok hw)
 have h1 := qQp
 have h2 := eql_err
 go_enter func47, ntmps47
 go_wp2_with (go_at_call 48; (with_reducible refine HC.out.mono ?_); rintro ed w1 ⟨hF, ⟨ht, rfl, hS⟩ | ⟨ht, v, rfl⟩⟩)
 · go_ret
   exact ⟨hF, .inl ⟨ht, rfl, hS⟩⟩
 go_ret
 exact ⟨hF, .inr ⟨ht, rfl⟩⟩
theorem par_try (c0 c1 : Value) (w : World) (R : Bool -> World -> Prop)
 (h : Calls prog 47 #[c0, c1] (w.alloc (.cells #[.bool false] 4)) fun ed w' => ∃ b, ed = .returned (.bool b) /\ R b w' /\ w'.cell? ⟨w.heap.size, 0, none⟩ = some (.bool false) /\ w'.frozen? ⟨w.heap.size, 0, none⟩ = false) :
 Calls prog 46 #[.func (.func 47) #[] #[c0, c1]] w fun ed w' => ∃ b w1, ed = .returned (.bool b) /\ R b w1 /\ w' = w1.setCell ⟨w.heap.size, 0, none⟩ (.bool b) := by
 have hmf : ∀ (fn : Fn) (first cap : Array Value) (w : World), (Instr.makeFunc fn first cap).run prog w = .ok (.func fn first cap) w := fun _ _ _ _ => rfl
 have hen := enters47
 have HC := hid h
 clear h
 go_enter_defers func46, ntmps46
 go_wp2_with (go_at_call 47; (with_reducible refine HC.out.mono ?_); rintro ed w1 ⟨b, rfl, hR, hc, hz⟩)
 refine leaves_cons (f := 62) (args := #[.pointer (some ⟨w.heap.size, 0, none⟩)]) (by simp) (by simp [go_sem]) ?_
 refine (qJk ⟨w.heap.size, 0, none⟩ _).mono ?_
 rintro e u' w'' ⟨rfl, rfl, rfl⟩
 have hc2 : (w1.setCell ⟨w.heap.size, 0, none⟩ (.bool b)).cell? ⟨w.heap.size, 0, none⟩ = some (.bool b) := World.cell?_setCell_same w1 _ _ hc
 simp [Leaves, settle, results, results46, go_sem, hc2]
 cases b
 · exact .inl ⟨rfl, w1, hR, rfl⟩
 exact .inr ⟨rfl, w1, hR, rfl⟩
end Go.Proofs.YtcepdjlknalmnaaGreatDoor
/- A cell of a truth value does not belong to the session that was read. qB7 laws. -/
namespace Go.Proofs.YtcepdjlknalmnaaGreatDoor
open Tryz
open Lib (hid byteCells)
open Go.RowKit
structure Bl (g : Nat) (w w' : World) : Prop where
 one : ∃ b t, Blk w g [.bool b] t
 cell : ∀ (p : Addr) u, ¬ p.block = g -> w.cell? p = some u -> w'.cell? p = some u
theorem Blk.get {w : World} {g : Nat} {l : List Value} {t : TypeId} (h : Blk w g l t) (j : Nat) : w.cell? ⟨g, j, none⟩ = l[j]? := by
 unfold Blk at h
 simp [World.cell?, h]
theorem Bl.set {w : World} {g : Nat} {b : Bool} {t : TypeId} (h : Blk w g [.bool b] t) (u : Value) : Bl g w (w.setCell ⟨g, 0, none⟩ u) :=
 ⟨⟨b, t, h⟩, fun p v hp hc => ((Fr.self (w := w) (p := ⟨g, 0, none⟩) u).cell (fun e => hp e) hc)⟩
namespace Ty
variable {α : Type} {T : Ty α}
def Kb (T : Ty α) : Prop := ∀ (g : Nat) (w w' : World), Bl g w w' -> ∀ x cs, T.rel w x cs -> T.rel w' x cs /\ ∃ j u, cs[j]? = some u /\ ∀ b, j = 0 -> ¬ u = .bool b
theorem Kb.at_ (h : Kb T) {g : Nat} {w w' : World} (hb : Bl g w w') {xs : List α} {b o : Nat} (ha : T.At w xs b o) : T.At w' xs b o := fun k x hx => by
 obtain ⟨cs, hr, hc⟩ := ha k x hx
 obtain ⟨hr', j, u, hj, hu⟩ := h g w w' hb x cs hr
 have hbg : ¬ b = g := fun e => by
  obtain ⟨b', t, hB⟩ := hb.one
  have := hc j u hj
  rw [e, hB.get] at this
  have hlt := (List.getElem?_eq_some_iff.1 this).1
  simp only [List.length_cons, List.length_nil] at hlt
  have hj0 : j = 0 := by omega
  rw [show o + k * T.sz + j = 0 by omega] at this
  exact hu b' hj0 (by simpa using this.symm)
 exact ⟨cs, hr', fun j u hu => hb.cell _ _ hbg (hc j u hu)⟩
theorem Kb.sl_ (h : Kb T) {g : Nat} {w w' : World} (hb : Bl g w w') {xs : List α} {v : Value} (hs : T.Sl w xs v) : T.Sl w' xs v := by
 obtain ⟨h0, hs⟩ := hs
 refine ⟨h0, ?_⟩
 rcases hs with hs | ⟨hp, b, o, c, rfl, hc, ha⟩
 · exact .inl hs
 exact .inr ⟨hp, b, o, c, rfl, hc, h.at_ hb ha⟩
theorem Kb.pt_ (h : Kb T) {g : Nat} {w w' : World} (hb : Bl g w w') {xs : List α} {v : Value} (hs : T.Pt w xs v) : T.Pt w' xs v := by
 rcases hs with hp | ⟨x, b, h1, h2, h3⟩
 · exact .inl hp
 exact .inr ⟨x, b, h1, h2, h.at_ hb h3⟩
theorem Kb.ptr (h : Kb T) : Kb T.ptr := fun g w w' hb x cs hr => by
 obtain ⟨b, rfl, ha⟩ := hr
 exact ⟨⟨b, rfl, h.at_ hb ha⟩, 0, _, rfl, fun _ _ e => by cases e⟩
end Ty
theorem qG2 : qAd.Kb := fun g w w' hb x cs hr => ⟨hr, by obtain ⟨rfl, _⟩ := hr; exact ⟨0, _, rfl, fun _ _ e => by cases e⟩⟩
theorem qMz : tyI.Kb := fun g w w' hb x cs hr => ⟨hr, by obtain ⟨rfl, _⟩ := hr; exact ⟨0, _, rfl, fun _ _ e => by cases e⟩⟩
theorem kb_bwd : qBx.Kb := fun g w w' hb x cs hr => ⟨hr, by obtain ⟨rfl, _⟩ := hr; exact ⟨1, _, rfl, fun _ e => by cases e⟩⟩
theorem kb_zon : qDt.Kb := fun g w w' hb x cs hr => ⟨hr, by obtain ⟨rfl, _⟩ := hr; exact ⟨1, _, rfl, fun _ e => by cases e⟩⟩
theorem kb_att : qBy.Kb := fun g w w' hb x cs hr => ⟨hr, by obtain ⟨rfl, _⟩ := hr; exact ⟨1, _, rfl, fun _ e => by cases e⟩⟩
theorem kb_padr : qHq.Kb := fun g w w' hb x cs hr => by
 obtain ⟨v1, v2, rfl, h0, h1, h2⟩ := hr
 exact ⟨⟨v1, v2, rfl, h0, qMz.pt_ hb h1, qMz.pt_ hb h2⟩, 1, _, rfl, fun _ e => by cases e⟩
theorem qQq : qGw.Kb := fun g w w' hb x cs hr => by
 obtain ⟨v1, rfl, h0, h1, h2⟩ := hr
 exact ⟨⟨v1, rfl, h0, h1, kb_padr.pt_ hb h2⟩, 1, _, rfl, fun _ e => by cases e⟩
theorem kb_rep : qDc.Kb := fun g w w' hb x cs hr => by
 obtain ⟨v1, rfl, h0, h1, h2⟩ := hr
 exact ⟨⟨v1, rfl, h0, h1, qMz.sl_ hb h2⟩, 1, _, rfl, fun _ e => by cases e⟩
theorem kb_tim : qCc.Kb := fun g w w' hb x cs hr => by
 obtain ⟨v1, rfl, h0, h1, h2⟩ := hr
 exact ⟨⟨v1, rfl, h0, h1, kb_rep.sl_ hb h2⟩, 1, _, rfl, fun _ e => by cases e⟩
theorem kb_pmed : qEs.Kb := fun g w w' hb x cs hr => by
 obtain ⟨v0, v1, v2, v3, v4, v5, v6, v7, rfl, m⟩ := hr
 exact ⟨⟨v0, v1, v2, v3, v4, v5, v6, v7, rfl, m.name, m.port, qMz.pt_ hb m.ports, qG2.sl_ hb m.protos, qG2.sl_ hb m.fmts, qG2.pt_ hb m.title, qQq.pt_ hb m.conn, kb_bwd.sl_ hb m.bws, qG2.pt_ hb m.key, kb_att.sl_ hb m.atts⟩, 1, _, rfl, fun _ e => by cases e⟩
theorem qN5.set {w : World} {D g : Nat} {x : Ssn} {b : Bool} {t : TypeId} (h : qN5 w D x) (hg : Blk w g [.bool b] t) (u : Value) : qN5 (w.setCell ⟨g, 0, none⟩ u) D x := by
 obtain ⟨i, u', e, p, c, b', t', z, k, a, m, hD, s⟩ := h
 have hb := Bl.set hg u
 have hDg : ¬ D = g := fun e => by
  have h1 := hD.get 1
  rw [e, hg.get 1] at h1
  simp [qEd] at h1
 exact ⟨i, u', e, p, c, b', t', z, k, a, m, hD.other hDg _, s.user, s.oid, s.over, s.onet, s.oaddr, s.oadr, s.name, qG2.pt_ hb s.info, qG2.pt_ hb s.uri, qG2.pt_ hb s.email, qG2.pt_ hb s.phone, qQq.pt_ hb s.conn, kb_bwd.sl_ hb s.bws, kb_tim.sl_ hb s.times, kb_zon.sl_ hb s.zones, qG2.pt_ hb s.key, kb_att.sl_ hb s.atts, (Ty.Kb.ptr kb_pmed).sl_ hb s.media⟩
end Go.Proofs.YtcepdjlknalmnaaGreatDoor
/- Unmarshal: the description of a text. Written by a small program of this claim's own (genunw). -/
namespace Go.Proofs.YtcepdjlknalmnaaGreatDoor
open Tryz
open Lib (hid byteCells)
open Go.RowKit
attribute [local go_sem ↓] Go.wp_at_zero Go.wp_at_succ qF2
attribute [local go_sem] qB5 qCv
def qIq (x : Ssn) : Prop := ∀ (D : Nat) (w : World), qN5 w D x -> Calls prog 49 #[.pointer (some ⟨D, 0, none⟩)] w fun e w' => ∃ v, e = .returned v /\ qAq (fun W => qIx W x v) w' (fun k => w.heap.size <= k) /\ Nw w w'
def qQr (x : Ssn) (tl : List UInt8) (w : World) (ed : Ending) (w' : World) : Prop :=
 Nw w w' /\ ((tl = [] /\ ∃ v, ed = .returned (.tuple #[v, .bool true]) /\ qAq (fun W => qIx W x v) w' (fun k => w.heap.size <= k)) ∨ (tl ≠ [] /\ ∃ cs : Array Value, ed = .returned (.tuple #[.agg cs, .bool false]) /\ cs.size = 19 /\ cs.all (·.oneCell') = true))
theorem qLa {fn : Func} {p q : Tmp} (h : fn.results = #[.cell p 33, .tmp q]) (tmps : Array Value) (w : World) (g : Nat) (cs : Array Value) (v : Value)
 (hp : tmps.getD p undef = .pointer (some ⟨g, 0, none⟩)) (hq : tmps.getD q undef = v) (hg : w.heap[g]? = some (.cells cs 33 (0, 0))) (hs : cs.size = 19) :
 (results fn tmps).run prog w = .ok (.tuple #[.agg cs, v]) w := by
 have hp' : tmps[p]?.getD undef = .pointer (some ⟨g, 0, none⟩) := by simpa using hp
 have hq' : tmps[q]?.getD undef = v := by simpa using hq
 have hi : (prog.info? 33).map (·.size) = some cs.size := by rw [hs]; kernel_rfl
 have h1 := run_loadVar_row w g 33 33 cs (0, 0) _ hg underlying33 rfl hi
 simp [results, h, hp', hq', asAddr, h1]
theorem qGo {w : World} {g : Nat} {l : List Value} {cs : Array Value} (h : Blk w g l 33) (hl : l.length = 19) (hs : cs.size = 19) (hc : cs.all (·.oneCell') = true) : qHe w 19 33 (.pointer (some ⟨g, 0, none⟩)) (.agg cs) = true := by
 rw [qFb, qEu h hl, hc, hs]
 rfl
theorem qM0 : (#[.int .i64 0, .string ⟨#[]⟩, .int .u64 0, .int .u64 0, .string ⟨#[]⟩, .string ⟨#[]⟩, .string ⟨#[]⟩, .string ⟨#[]⟩, .slice none 0 0, .slice none 0 0, .slice none 0 0, .slice none 0 0, .slice none 0 0, .slice none 0 0, .slice none 0 0, .slice none 0 0, .slice none 0 0, .slice none 0 0, .slice none 0 0] : Array Value).all (·.oneCell') = true := by simp [qG1, qD6, qF3]
theorem qLb {W : World} {x : Ssn} {v : Value} (h : qIx W x v) : ∃ cs : Array Value, v = .agg cs /\ cs.size = 19 /\ cs.all (·.oneCell') = true := by
 obtain ⟨v0, v1, v2, v3, v4, v5, v6, v7, v8, v9, v10, rfl, m⟩ := h
 refine ⟨_, rfl, rfl, ?_⟩
 simp [qG1, qD6, qBg m.info, qBg m.uri, qBg m.email, qBg m.phone, qBg m.conn, qBg m.bws, qBg m.times, qBg m.zones, qBg m.key, qBg m.atts, qBg m.media]
set_option maxRecDepth 100000 in
theorem qG3 (w : World) (s : ByteArray) (e tl : List UInt8) (ls : List Ln) (a : Addr) (hs : qAb s) (hE : Eof w a) (he : qI2 e) (htl : TlOk tl) (hseg : Seg s 0 (qAm e (ls.map Ln.text) ++ tl)) (hsz : (qAm e (ls.map Ln.text) ++ tl).length = s.size)
 (hp : path 1 ls) (hok : ∀ l ∈ ls, qJ0 l /\ StOk l) (hw : wts ls <= 1000) (HP : tl = [] -> qIq (Pst.zero.apps ls).fin) : Calls prog 13 #[.string s] w (qQr (Pst.zero.apps ls).fin tl w) := by
 obtain ⟨x, hx⟩ : ∃ x, x = (Pst.zero.apps ls).fin := ⟨_, rfl⟩
 rw [<- hx] at HP ⊢
 obtain ⟨w3, hw3⟩ : ∃ w3, w3 = ((w.alloc (.cells #[.string s] 9)).alloc (.cells #[.int .i64 0, .string ⟨#[]⟩, .int .u64 0, .int .u64 0, .string ⟨#[]⟩, .string ⟨#[]⟩, .string ⟨#[]⟩, .string ⟨#[]⟩, .slice none 0 0, .slice none 0 0, .slice none 0 0, .slice none 0 0, .slice none 0 0, .slice none 0 0, .slice none 0 0, .slice none 0 0, .slice none 0 0, .slice none 0 0, .slice none 0 0] 33)).alloc (.cells #[.int .i64 0, .string ⟨#[]⟩, .int .u64 0, .int .u64 0, .string ⟨#[]⟩, .string ⟨#[]⟩, .string ⟨#[]⟩, .string ⟨#[]⟩, .pointer none, .pointer none, .pointer none, .pointer none, .pointer none, .slice none 0 0, .slice none 0 0, .slice none 0 0, .pointer none, .slice none 0 0, .slice none 0 0] 115) := ⟨_, rfl⟩
 obtain ⟨tx, htx⟩ : ∃ g, g = w.heap.size := ⟨_, rfl⟩
 obtain ⟨r, hr⟩ : ∃ g, g = tx + 1 := ⟨_, rfl⟩
 obtain ⟨D, hD⟩ : ∃ g, g = r + 1 := ⟨_, rfl⟩
 have q3 : Nw w w3 := by rw [hw3]; exact (((Nw.refl w).alloc _).alloc _).alloc _
 have bT : Blk w3 tx [.string s] 9 := by rw [hw3, htx]; exact ((Blk.made w [.string s] 9).alloc _).alloc _
 have bR : Blk w3 r [.int .i64 0, .string ⟨#[]⟩, .int .u64 0, .int .u64 0, .string ⟨#[]⟩, .string ⟨#[]⟩, .string ⟨#[]⟩, .string ⟨#[]⟩, .slice none 0 0, .slice none 0 0, .slice none 0 0, .slice none 0 0, .slice none 0 0, .slice none 0 0, .slice none 0 0, .slice none 0 0, .slice none 0 0, .slice none 0 0, .slice none 0 0] 33 := by
  rw [hw3, hr, htx]
  have := (Blk.made (w.alloc (.cells #[.string s] 9)) [.int .i64 0, .string ⟨#[]⟩, .int .u64 0, .int .u64 0, .string ⟨#[]⟩, .string ⟨#[]⟩, .string ⟨#[]⟩, .string ⟨#[]⟩, .slice none 0 0, .slice none 0 0, .slice none 0 0, .slice none 0 0, .slice none 0 0, .slice none 0 0, .slice none 0 0, .slice none 0 0, .slice none 0 0, .slice none 0 0, .slice none 0 0] 33).alloc (.cells #[.int .i64 0, .string ⟨#[]⟩, .int .u64 0, .int .u64 0, .string ⟨#[]⟩, .string ⟨#[]⟩, .string ⟨#[]⟩, .string ⟨#[]⟩, .pointer none, .pointer none, .pointer none, .pointer none, .pointer none, .slice none 0 0, .slice none 0 0, .slice none 0 0, .pointer none, .slice none 0 0, .slice none 0 0] 115)
  simpa using this
 have bD : Blk w3 D qQl 115 := by
  rw [hw3, hD, hr, htx]
  have := Blk.made ((w.alloc (.cells #[.string s] 9)).alloc (.cells #[.int .i64 0, .string ⟨#[]⟩, .int .u64 0, .int .u64 0, .string ⟨#[]⟩, .string ⟨#[]⟩, .string ⟨#[]⟩, .string ⟨#[]⟩, .slice none 0 0, .slice none 0 0, .slice none 0 0, .slice none 0 0, .slice none 0 0, .slice none 0 0, .slice none 0 0, .slice none 0 0, .slice none 0 0, .slice none 0 0, .slice none 0 0] 33)) [.int .i64 0, .string ⟨#[]⟩, .int .u64 0, .int .u64 0, .string ⟨#[]⟩, .string ⟨#[]⟩, .string ⟨#[]⟩, .string ⟨#[]⟩, .pointer none, .pointer none, .pointer none, .pointer none, .pointer none, .slice none 0 0, .slice none 0 0, .slice none 0 0, .pointer none, .slice none 0 0, .slice none 0 0] 115
  simp at this
  exact this
 have n3 : w3.heap.size = w.heap.size + 3 := by rw [hw3]; simp
 have h0 : 0 < w.heap.size := World.block_lt_of_cell? _ _ hE
 have nRD : ¬ w3.heap.size = D := by omega
 have bO := Blk.made w3 [.bool false] 4
 have HC : Hid (Calls prog 46 #[.func (.func 47) #[] #[.pointer (some ⟨D, 0, none⟩), .pointer (some ⟨tx, 0, none⟩)]] w3 fun ed w' => ∃ b, ed = .returned (.bool b) /\ Fr (fun k => D <= k) w3 w' /\ ((tl = [] /\ b = true /\ qN5 w' D x) ∨ (tl ≠ [] /\ b = false))) := hid (by
  refine (par_try (.pointer (some ⟨D, 0, none⟩)) (.pointer (some ⟨tx, 0, none⟩)) w3 (fun b w' => (Fr (fun k => D <= k) (w3.alloc (.cells #[.bool false] 4)) w' /\ Blk w' w3.heap.size [.bool false] 4) /\ ((tl = [] /\ b = true /\ qN5 w' D x) ∨ (tl ≠ [] /\ b = false))) ?_).mono ?_
  · refine (par_47 (fun W => Blk W w3.heap.size [.bool false] 4) _ D tx s e tl ls a (bD.alloc _) ?_ (by omega) ((bT.alloc _).cell 0 rfl) hs ((hE.nw q3).nw ((Nw.refl _).alloc _)) he htl hseg hsz hp hok hw).mono ?_
    · intro W hW
      exact (hW _ nRD (Blk.lt bO)).trans bO
    rintro ed w' ⟨⟨hF, hP⟩, ⟨ht, rfl, hS⟩ | ⟨ht, rfl⟩⟩
    · exact ⟨true, rfl, ⟨⟨hF, hP⟩, .inl ⟨ht, rfl, by rw [hx]; exact hS⟩⟩, hP.cell 0 rfl, hP.fz 0⟩
    exact ⟨false, rfl, ⟨⟨hF, hP⟩, .inr ⟨ht, rfl⟩⟩, hP.cell 0 rfl, hP.fz 0⟩
  rintro ed w' ⟨b, w1, rfl, ⟨⟨hF, hP⟩, hS⟩, rfl⟩
  refine ⟨b, rfl, ((((Nw.refl w3).alloc _).fr _).trans (hF.mono (fun k _ e => .inl e))).setCell (.inr (Nat.le_refl _)) _, hS.imp (fun h => ⟨h.1, h.2.1, h.2.2.set hP _⟩) id⟩)
 unfold qIq at HP
 have hlt1 : tx < r := by omega
 have hlt2 : r < D := by omega
 have hwr : w.heap.size <= r := by omega
 clear hx hseg hsz hok
 by_cases ht : tl = []
 · have HPl := hid (HP ht)
   clear HP
   have HC2 : Hid (Calls prog 46 #[.func (.func 47) #[] #[.pointer (some ⟨D, 0, none⟩), .pointer (some ⟨tx, 0, none⟩)]] w3 fun ed w' => ed = .returned (.bool true) /\ Fr (fun k => D <= k) w3 w' /\ qN5 w' D x) := hid (HC.out.mono (by
    rintro ed w' ⟨b, rfl, hF, ⟨_, rfl, hS⟩ | ⟨h, _⟩⟩
    · exact ⟨rfl, hF, hS⟩
    exact absurd ht h))
   have HT := hid ht
   clear HC ht htl
   go_enter func13, ntmps13
   go_upto_region 2 with fail
   rw [<- hw3, <- htx, <- hr, <- hD]
   have HN3 := hid n3
   have HTX := hid htx
   have HR := hid hr
   have HDD := hid hD
   clear hw3 htx hr hD n3 hw
   have hq3 := hid q3
   go_wp2_with (first | (go_at_call 46; (with_reducible refine HC2.out.mono ?_); rintro ed w4 ⟨rfl, hF, hS⟩) | (go_at_call 49; (with_reducible refine (HPl.out D _ hS).mono ?_); rintro ed w5 ⟨v, rfl, hv, hn5⟩; obtain ⟨cs, rfl, hcs, hall⟩ := qLb hv.now; have hB5 := (bR.fr hF (fun e => by omega)).nw hn5; have hst := qGo hB5 rfl hcs hall))
   have hR6 : Blk (w5.setRow r cs) r cs.toList 33 := by
    have := qBp (l2 := cs.toList) hB5
    simpa using this
   refine bodyPost_ret (qLa (fn := f13) rfl _ _ r cs (.bool true) rfl rfl (by have := hR6; unfold Blk at this; simpa using this) hcs) rfl ?_
   have hF6 : Fr (fun k => k = r) w5 (w5.setRow r cs) := qEv _ _ _
   have h45 := hF.size
   have h5 := hF.size
   have h6 := hq3.out.size
   have h7 := bR.lt
   exact ⟨hq3.out.frIn (((hF.mono (T := fun k => r <= k) (fun k _ e => by show r <= k; omega)).trans (hn5.fr _)).trans (hF6.mono (fun k _ e => .inl (by show r <= k; omega)))) (fun k e => by have e' : r <= k := e; omega), .inl ⟨HT.out, _, rfl, (hv.fr hF6 (fun k hk hok e => by omega)).mono (fun k _ e => by omega)⟩⟩
 clear HP
 have HC2 : Hid (Calls prog 46 #[.func (.func 47) #[] #[.pointer (some ⟨D, 0, none⟩), .pointer (some ⟨tx, 0, none⟩)]] w3 fun ed w' => ed = .returned (.bool false) /\ Fr (fun k => D <= k) w3 w') := hid (HC.out.mono (by
  rintro ed w' ⟨b, rfl, hF, ⟨h, _⟩ | ⟨_, rfl⟩⟩
  · exact absurd h ht
  exact ⟨rfl, hF⟩))
 have HT := hid ht
 clear HC ht htl
 go_enter func13, ntmps13
 go_upto_region 2 with fail
 rw [<- hw3, <- htx, <- hr, <- hD]
 have HN3 := hid n3
 have HTX := hid htx
 have HR := hid hr
 have HDD := hid hD
 clear hw3 htx hr hD n3 hw
 have hq3 := hid q3
 go_wp2_with (go_at_call 46; (with_reducible refine HC2.out.mono ?_); rintro ed w4 ⟨rfl, hF⟩; have hB5 := bR.fr hF (fun e => by omega); have hst := qGo (cs := #[.int .i64 0, .string ⟨#[]⟩, .int .u64 0, .int .u64 0, .string ⟨#[]⟩, .string ⟨#[]⟩, .string ⟨#[]⟩, .string ⟨#[]⟩, .slice none 0 0, .slice none 0 0, .slice none 0 0, .slice none 0 0, .slice none 0 0, .slice none 0 0, .slice none 0 0, .slice none 0 0, .slice none 0 0, .slice none 0 0, .slice none 0 0]) hB5 rfl rfl qM0)
 have hR6 : Blk (w4.setRow r #[.int .i64 0, .string ⟨#[]⟩, .int .u64 0, .int .u64 0, .string ⟨#[]⟩, .string ⟨#[]⟩, .string ⟨#[]⟩, .string ⟨#[]⟩, .slice none 0 0, .slice none 0 0, .slice none 0 0, .slice none 0 0, .slice none 0 0, .slice none 0 0, .slice none 0 0, .slice none 0 0, .slice none 0 0, .slice none 0 0, .slice none 0 0]) r [.int .i64 0, .string ⟨#[]⟩, .int .u64 0, .int .u64 0, .string ⟨#[]⟩, .string ⟨#[]⟩, .string ⟨#[]⟩, .string ⟨#[]⟩, .slice none 0 0, .slice none 0 0, .slice none 0 0, .slice none 0 0, .slice none 0 0, .slice none 0 0, .slice none 0 0, .slice none 0 0, .slice none 0 0, .slice none 0 0, .slice none 0 0] 33 := qBp (l2 := [.int .i64 0, .string ⟨#[]⟩, .int .u64 0, .int .u64 0, .string ⟨#[]⟩, .string ⟨#[]⟩, .string ⟨#[]⟩, .string ⟨#[]⟩, .slice none 0 0, .slice none 0 0, .slice none 0 0, .slice none 0 0, .slice none 0 0, .slice none 0 0, .slice none 0 0, .slice none 0 0, .slice none 0 0, .slice none 0 0, .slice none 0 0]) hB5
 refine bodyPost_ret (qLa (fn := f13) rfl _ _ r #[.int .i64 0, .string ⟨#[]⟩, .int .u64 0, .int .u64 0, .string ⟨#[]⟩, .string ⟨#[]⟩, .string ⟨#[]⟩, .string ⟨#[]⟩, .slice none 0 0, .slice none 0 0, .slice none 0 0, .slice none 0 0, .slice none 0 0, .slice none 0 0, .slice none 0 0, .slice none 0 0, .slice none 0 0, .slice none 0 0, .slice none 0 0] (.bool false) rfl rfl hR6 rfl) rfl ?_
 have hF6 : Fr (fun k => k = r) w4 (w4.setRow r #[.int .i64 0, .string ⟨#[]⟩, .int .u64 0, .int .u64 0, .string ⟨#[]⟩, .string ⟨#[]⟩, .string ⟨#[]⟩, .string ⟨#[]⟩, .slice none 0 0, .slice none 0 0, .slice none 0 0, .slice none 0 0, .slice none 0 0, .slice none 0 0, .slice none 0 0, .slice none 0 0, .slice none 0 0, .slice none 0 0, .slice none 0 0]) := qEv _ _ _
 exact ⟨hq3.out.frIn ((hF.mono (T := fun k => r <= k) (fun k _ e => by show r <= k; omega)).trans (hF6.mono (fun k _ e => .inl (by show r <= k; omega)))) (fun k e => by have e' : r <= k := e; omega), .inr ⟨HT.out, _, rfl, rfl, qM0⟩⟩
end Go.Proofs.YtcepdjlknalmnaaGreatDoor
namespace Go.Proofs.YtcepdjlknalmnaaGreatDoor
open Tryz
open Lib (hid byteCells)
open Go.RowKit
attribute [local go_sem ↓] Go.wp_at_zero Go.wp_at_succ
theorem buf_text {W : World} {B : Nat} {v : Value} {l : List UInt8} (hb : Buf W B v l) (src : TypeId) (hs : prog.underlying src = some (.slice 5)) : (convert src 9 v).run prog W = .ok (.string (mk l)) W := by
 rcases hb.2 with ⟨rfl, h0⟩ | ⟨g, cap, cur, rfl, _, hg, _, _, hsz, ht⟩
 · have e : l = [] := List.eq_nil_of_length_eq_zero h0
   subst e
   exact run_convert_bytes_nil W src 5 hs underlying5 0 0 9 underlying9
 refine run_convert_bytes_back W src 9 5 ⟨g, 0, none⟩ cap l hs underlying5 underlying9 (fun j hj => ?_)
 have e1 : (cur.toList.take (l.length * 1))[j]? = (byteCells l)[j]? := by rw [ht]
 rw [Nat.mul_one, List.getElem?_take_of_lt hj] at e1
 have e2 : (byteCells l)[j]? = some (.int .u8 (l[j].toNat : Int)) := by
  unfold byteCells
  rw [List.getElem?_map, List.getElem?_eq_getElem hj]
  rfl
 rw [e2] at e1
 have e3 : (⟨g, 0, none⟩ : Addr).add j = ⟨g, j, none⟩ := by unfold Addr.add; split <;> simp_all
 rw [e3]
 simpa [World.cell?, hg] using e1
theorem par_tryG (F : FuncId) (cs : Array Value) (w : World) (R : Bool -> World -> Prop) (hen : ∀ args w, (callFunc F args).run prog w = .ok (.enter F args) w)
 (h : Calls prog F cs (w.alloc (.cells #[.bool false] 4)) fun ed w' => ∃ b, ed = .returned (.bool b) /\ R b w' /\ w'.cell? ⟨w.heap.size, 0, none⟩ = some (.bool false) /\ w'.frozen? ⟨w.heap.size, 0, none⟩ = false) :
 Calls prog 46 #[.func (.func F) #[] cs] w fun ed w' => ∃ b w1, ed = .returned (.bool b) /\ R b w1 /\ w' = w1.setCell ⟨w.heap.size, 0, none⟩ (.bool b) := by
 have hmf : ∀ (fn : Fn) (first cap : Array Value) (w : World), (Instr.makeFunc fn first cap).run prog w = .ok (.func fn first cap) w := fun _ _ _ _ => rfl
 have HC := hid h
 clear h
 go_enter_defers func46, ntmps46
 go_wp2_with (go_at_fn F; (with_reducible refine HC.out.mono ?_); rintro ed w1 ⟨b, rfl, hR, hc, hz⟩)
 refine leaves_cons (f := 62) (args := #[.pointer (some ⟨w.heap.size, 0, none⟩)]) (by simp) (by simp [go_sem]) ?_
 refine (qJk ⟨w.heap.size, 0, none⟩ _).mono ?_
 rintro e u' w'' ⟨rfl, rfl, rfl⟩
 have hc2 : (w1.setCell ⟨w.heap.size, 0, none⟩ (.bool b)).cell? ⟨w.heap.size, 0, none⟩ = some (.bool b) := World.cell?_setCell_same w1 _ _ hc
 simp [Leaves, settle, results, results46, go_sem, hc2]
 cases b
 · exact .inl ⟨rfl, w1, hR, rfl⟩
 exact .inr ⟨rfl, w1, hR, rfl⟩
end Go.Proofs.YtcepdjlknalmnaaGreatDoor

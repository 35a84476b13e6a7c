/- The package's Marshal: the text of a session of the package. Written by a small program of this claim's own (genmar). -/
import Derived.Test.YtcepdjlknalmnaaGreatDoorMrk
import Derived.Test.YtcepdjlknalmnaaGreatDoorZst
import Derived.Test.YtcepdjlknalmnaaGreatDoorFin
set_option linter.unusedSimpArgs false
set_option linter.unusedVariables false
namespace Go.Proofs.YtcepdjlknalmnaaGreatDoor
open Tryz
open List (length_append length_nil append_nil length_cons append_assoc take_of_length_le nil_append getElem_mem)
open Lib (itoa hid)
open Go.RowKit
attribute [local go_sem ↓] Go.wp_at_zero Go.wp_at_succ
def jt (ls : List Ln) : List UInt8 := qAm [13, 10] (ls.map Ln.text)
theorem qAl (a b : List Ln) : jt (a ++ b) = jt a ++ jt b := by unfold jt qAm; rw [List.map_append, List.flatMap_append]
theorem qA7 : jt [] = [] := rfl
theorem qJo (l : Ln) : jt [l] = [l.key, 61] ++ l.body ++ [13, 10] := by
 unfold jt qAm
 simp [Ln.text]
def L3 (x : Ssn) : List Ln := [] ++ [.lv] ++ [.lo x.org] ++ [.ls x.name]
def L4 (x : Ssn) : List Ln := L3 x ++ x.info.map .li
def L5 (x : Ssn) : List Ln := L4 x ++ x.uri.map .lu
def L6 (x : Ssn) : List Ln := L5 x ++ x.email.map .le
def L7 (x : Ssn) : List Ln := L6 x ++ x.phone.map .lp
def L8 (x : Ssn) : List Ln := L7 x ++ x.conn.map .lc
def L9 (x : Ssn) : List Ln := L8 x ++ x.bws.map .lb
def L10 (x : Ssn) : List Ln := L9 x ++ x.times.flatMap qBl
def L11 (x : Ssn) : List Ln := L10 x ++ (if x.zones.length = 0 then [] else [.lz x.zones])
def L12 (x : Ssn) : List Ln := L11 x ++ x.key.map .lk
def L13 (x : Ssn) : List Ln := L12 x ++ x.atts.map .la
def L14 (x : Ssn) : List Ln := L13 x ++ x.media.flatMap qBn
def N1 (x : Ssn) (k : Nat) (y : Med) : List Ln := L13 x ++ (x.media.take k).flatMap qBn ++ [.lm y]
def N2 (x : Ssn) (k : Nat) (y : Med) : List Ln := N1 x k y ++ y.title.map .mi
def N3 (x : Ssn) (k : Nat) (y : Med) : List Ln := N2 x k y ++ y.conn.map .mc
def N4 (x : Ssn) (k : Nat) (y : Med) : List Ln := N3 x k y ++ y.bws.map .mb
def N5 (x : Ssn) (k : Nat) (y : Med) : List Ln := N4 x k y ++ y.key.map .mkey
def N6 (x : Ssn) (k : Nat) (y : Med) : List Ln := N5 x k y ++ y.atts.map .ma
theorem qD9 : (∀ x, (jt (L3 x)).length = (jt [.lv]).length + (jt [.lo x.org]).length + (jt [.ls x.name]).length) ∧
 (∀ x, (jt (L4 x)).length = (jt (L3 x)).length + (jt (x.info.map .li)).length) ∧
 (∀ x, (jt (L5 x)).length = (jt (L4 x)).length + (jt (x.uri.map .lu)).length) ∧
 (∀ x, (jt (L6 x)).length = (jt (L5 x)).length + (jt (x.email.map .le)).length) ∧
 (∀ x, (jt (L7 x)).length = (jt (L6 x)).length + (jt (x.phone.map .lp)).length) ∧
 (∀ x, (jt (L8 x)).length = (jt (L7 x)).length + (jt (x.conn.map .lc)).length) ∧
 (∀ x, (jt (L9 x)).length = (jt (L8 x)).length + (jt (x.bws.map .lb)).length) ∧
 (∀ x, (jt (L10 x)).length = (jt (L9 x)).length + (jt (x.times.flatMap qBl)).length) ∧
 (∀ x, (jt (L11 x)).length = (jt (L10 x)).length + (jt (if x.zones.length = 0 then [] else [.lz x.zones])).length) ∧
 (∀ x, (jt (L12 x)).length = (jt (L11 x)).length + (jt (x.key.map .lk)).length) ∧
 (∀ x, (jt (L13 x)).length = (jt (L12 x)).length + (jt (x.atts.map .la)).length) ∧
 (∀ x, (jt (L14 x)).length = (jt (L13 x)).length + (jt (x.media.flatMap qBn)).length) ∧
 (∀ x k y, (jt (N1 x k y)).length = (jt (L13 x)).length + (jt ((x.media.take k).flatMap qBn)).length + (jt [.lm y]).length) ∧
 (∀ x k y, (jt (N2 x k y)).length = (jt (N1 x k y)).length + (jt (y.title.map .mi)).length) ∧
 (∀ x k y, (jt (N3 x k y)).length = (jt (N2 x k y)).length + (jt (y.conn.map .mc)).length) ∧
 (∀ x k y, (jt (N4 x k y)).length = (jt (N3 x k y)).length + (jt (y.bws.map .mb)).length) ∧
 (∀ x k y, (jt (N5 x k y)).length = (jt (N4 x k y)).length + (jt (y.key.map .mkey)).length) ∧
 (∀ x k y, (jt (N6 x k y)).length = (jt (N5 x k y)).length + (jt (y.atts.map .ma)).length) := by
 simp only [L3, L4, L5, L6, L7, L8, L9, L10, L11, L12, L13, L14, N1, N2, N3, N4, N5, N6, qAl, qA7, length_append, length_nil, Nat.zero_add, implies_true, and_self]
structure MS (B gm : Nat) (w0 W : World) (ls : List Ln) (t : List UInt8) : Prop where
 gd : Gd B W
 kept : Mk B (some gm) w0 W
 buf : ∃ A n c, Blk W gm [.slice A n c] 193 /\ Buf W B (.slice A n c) (jt ls ++ t)
theorem MS.nw {B gm : Nat} {w w0 W : World} {ls : List Ln} {t : List UInt8} (h : MS B gm w0 W ls t) (hq : Nw w w0) (hB : w.heap.size <= B) : Nw w W := h.kept.nw hq hB
theorem MS.alloc {B gm : Nat} {w0 W : World} {ls : List Ln} {t : List UInt8} (h : MS B gm w0 W ls t) (o : Obj) : MS B gm w0 (W.alloc o) ls t := by
 obtain ⟨A, n, c, h1, h2⟩ := h.buf
 have m : Mk B (some gm) W (W.alloc o) := (Mk.refl _ _ _).alloc h.gd.1 o
 exact ⟨h.gd.on m, h.kept.trans m, A, n, c, h1.alloc o, h2.alloc o⟩
theorem MS.on {B gm : Nat} {w0 W W' : World} {ls : List Ln} {t : List UInt8} (h : MS B gm w0 W ls t) (m : Nw W W') : MS B gm w0 W' ls t := by
 obtain ⟨A, n, c, h1, h2⟩ := h.buf
 have m2 : Mk B (some gm) W W' := Mk.ofNw m h.gd.1
 exact ⟨h.gd.on m2, h.kept.trans m2, A, n, c, h1.nw m, h2.nw m⟩
theorem kvl {B gm : Nat} {w0 W : World} {ls : List Ln} (ln : Ln) (F : FuncId) (rcv : Value) (kb : ByteArray) (hkb : kb = mk [ln.key, 61]) (hen : ∀ args w, (callFunc F args).run prog w = .ok (.enter F args) w) (h : MS B gm w0 W ls []) (hgB : B <= gm)
 (hl : (jt ls).length + (jt [ln]).length + 512 <= 140737488355328)
 (hF : ∀ w1 v1 l, Buf w1 B v1 l -> Gd B w1 -> Mk B (some gm) W w1 -> l.length + ln.body.length + 128 <= 140737488355328 -> Calls prog F #[rcv, v1] w1 (qBh B w1 l ln.body)) :
 Calls prog 86 #[.pointer (some ⟨gm, 0, none⟩), .string kb, .func (.func F) #[rcv] #[]] W fun e W' => e = .returned (.tuple #[]) /\ MS B gm w0 W' (ls ++ [ln]) [] /\ Mk B (some gm) W W' := by
 obtain ⟨A, n, c, h1, h2⟩ := h.buf
 rw [append_nil] at h2
 subst hkb
 have hj := congrArg List.length (qJo ln)
 simp only [length_append, length_cons, length_nil] at hj
 refine (add_kv B [ln.key, 61] F rcv ln.body gm W _ (jt ls) hen h1 hgB h2 h.gd (by simp) (by omega) (fun w1 v1 hb m => hF w1 v1 _ hb (h.gd.on m) m (by simp only [length_append, length_cons, length_nil]; omega))).mono ?_
 rintro e W' ⟨rfl, v', h3, h4, m⟩
 obtain ⟨A', n', c', rfl⟩ := h4.form3
 refine ⟨rfl, ⟨h.gd.on m, h.kept.trans m, A', n', c', h3, ?_⟩, m⟩
 rw [append_nil, qAl, qJo]
 exact h4
theorem buf_make {P : Program} {o : Oper} {a : Act} {Q : Exit -> Act -> World -> Prop} {K : Act -> World -> Prop} {W : World} (B : Nat) (x y : Operand) (t : TypeId) (c : Nat) (ho : o.op = .makeSlice t x y) (ht : P.underlying t = some (.slice 5)) (hinfo : (P.info? 5).map (fun i => (i.zero, i.size, i.bytes)) = some (some (.int .u8 0), 1, 1))
 (hx : a.eval x = .int .i64 0) (hy : a.eval y = .int .i64 (c : Int)) (hc : c <= 140737488355328) (hB : B <= W.heap.size)
 (h : ∀ w', Buf w' B (.slice (some ⟨W.heap.size, 0, none⟩) 0 c) [] -> Nw W w' -> K (a.put o.dst (.slice (some ⟨W.heap.size, 0, none⟩) 0 c)) w') : o.wp P a W K Q := by
 obtain ⟨i0, hi, hzz⟩ := Option.map_eq_some_iff.1 hinfo
 simp only [Prod.mk.injEq] at hzz
 obtain ⟨hz0, hz1, hz2⟩ := hzz
 obtain ⟨w', hr, h1, h2⟩ := run_make_own (P := P) W B t 5 i0 (.int .u8 0) 1 ht hi hz0 hz1 .i64 .i64 c (by rw [hz2]; omega) (by simp only [maxLen]; omega) hB
 unfold Oper.wp execOp
 simp only [ho, hx, hy, Sem.run_bind, Sem.run_pure, Result.andThen_ok, hr]
 exact h w' h1 ((Nw.refl W).grown h2 (fun k e => by cases e))
theorem enters87 : ∀ args w, (callFunc 87 args).run prog w = .ok (.enter 87 args) w := enters_of func87 (by kernel_rfl) rfl
theorem enters88 : ∀ args w, (callFunc 88 args).run prog w = .ok (.enter 88 args) w := enters_of func88 (by kernel_rfl) rfl
theorem enters89 : ∀ args w, (callFunc 89 args).run prog w = .ok (.enter 89 args) w := enters_of func89 (by kernel_rfl) rfl
theorem qM9 : ∀ args w, (callFunc 90 args).run prog w = .ok (.enter 90 args) w := enters_of func90 (by kernel_rfl) rfl
theorem enters92 : ∀ args w, (callFunc 92 args).run prog w = .ok (.enter 92 args) w := enters_of func92 (by kernel_rfl) rfl
theorem enters93 : ∀ args w, (callFunc 93 args).run prog w = .ok (.enter 93 args) w := enters_of func93 (by kernel_rfl) rfl
theorem qNa : ∀ args w, (callFunc 94 args).run prog w = .ok (.enter 94 args) w := enters_of func94 (by kernel_rfl) rfl
theorem qNb : ∀ args w, (callFunc 95 args).run prog w = .ok (.enter 95 args) w := enters_of func95 (by kernel_rfl) rfl
theorem enters96 : ∀ args w, (callFunc 96 args).run prog w = .ok (.enter 96 args) w := enters_of func96 (by kernel_rfl) rfl
theorem enters97 : ∀ args w, (callFunc 97 args).run prog w = .ok (.enter 97 args) w := enters_of func97 (by kernel_rfl) rfl
theorem qNc : ∀ args w, (callFunc 99 args).run prog w = .ok (.enter 99 args) w := enters_of func99 (by kernel_rfl) rfl
theorem qLj : ∀ args w, (callFunc 100 args).run prog w = .ok (.enter 100 args) w := enters_of func100 (by kernel_rfl) rfl
theorem qQ9 : ∀ args w, (callFunc 101 args).run prog w = .ok (.enter 101 args) w := enters_of func101 (by kernel_rfl) rfl
structure MarOk (x : Ssn) : Prop where
 ver : x.ver = 0
 con : ∀ c ∈ x.conn, ∀ a ∈ c.adrs, ∀ n ∈ a.ttl ++ a.rng, 0 <= n
 med : ∀ m ∈ x.media, (0 <= m.port /\ ∀ n ∈ m.ports, 0 <= n) /\ (m.protos ≠ [] /\ m.fmts ≠ []) /\ ∀ c ∈ m.conn, ∀ a ∈ c.adrs, ∀ n ∈ a.ttl ++ a.rng, 0 <= n
 len : (jt (lns x)).length + 1024 <= 140737488355328
theorem qJ8 : itoa 0 = [48] := by
 unfold itoa
 rw [if_neg (by omega), Lib.decDigits]
 rfl
def KL (B : Nat) (w : World) (ln : Ln) (F : FuncId) (rcv : Value) : Prop := ∀ w1 v1 l, Buf w1 B v1 l -> Gd B w1 -> Nw w w1 -> l.length + ln.body.length + 128 <= 140737488355328 -> Calls prog F #[rcv, v1] w1 (qBh B w1 l ln.body)
theorem kv {B gm : Nat} {w w0 W : World} {ls : List Ln} {ln : Ln} {F : FuncId} {rcv : Value} (K : Hid (KL B w ln F rcv)) (kb : ByteArray) (hkb : kb = mk [ln.key, 61]) (hen : ∀ args w, (callFunc F args).run prog w = .ok (.enter F args) w) (h : MS B gm w0 W ls []) (hn : Nw w W) (hB : w.heap.size <= B) (hgB : B <= gm)
 (hl : (jt ls).length + (jt [ln]).length + 512 <= 140737488355328) :
 Calls prog 86 #[.pointer (some ⟨gm, 0, none⟩), .string kb, .func (.func F) #[rcv] #[]] W fun e W' => e = .returned (.tuple #[]) /\ MS B gm w0 W' (ls ++ [ln]) [] /\ Mk B (some gm) W W' :=
 kvl ln F rcv kb hkb hen h hgB hl (fun w1 v1 l hb hg1 m hl => K.out w1 v1 l hb hg1 (m.nw hn hB) hl)
theorem MS.put {B gm : Nat} {w0 W W1 : World} {ls : List Ln} {t s : List UInt8} {A : Option Addr} {n c : Nat} (h : MS B gm w0 W ls t) (hgB : B <= gm) (hb : Buf W1 B (.slice A n c) (jt ls ++ t ++ s)) (m : Mk B none W W1) :
 MS B gm w0 (W1.setCell ⟨gm, 0, none⟩ (.slice A n c)) ls (t ++ s) /\ (W1.setCell ⟨gm, 0, none⟩ (.slice A n c)).cell? ⟨gm, 0, none⟩ = some (.slice A n c) /\ (W1.setCell ⟨gm, 0, none⟩ (.slice A n c)).frozen? ⟨gm, 0, none⟩ = false /\ W1.frozen? ⟨gm, 0, none⟩ = false /\ ∃ v0, W1.cell? ⟨gm, 0, none⟩ = some v0 := by
 obtain ⟨A0, n0, c0, h1, h2⟩ := h.buf
 have hG := m.blk h1 (by decide) (by simp)
 have hS : Blk (W1.setCell ⟨gm, 0, none⟩ (.slice A n c)) gm [.slice A n c] 193 := hG.set 0 _
 have m2 : Mk B (some gm) W (W1.setCell ⟨gm, 0, none⟩ (.slice A n c)) := m.weak.setCell hgB _
 refine ⟨⟨h.gd.on m2, h.kept.trans m2, A, n, c, hS, ?_⟩, hS.cell 0 rfl, hS.fz 0, hG.fz 0, _, hG.cell 0 rfl⟩
 have := hb.set (j := 0) hG (by decide) (.slice A n c)
 rwa [append_assoc] at this
theorem MS.line {B gm : Nat} {w0 W : World} {ls : List Ln} {t : List UInt8} (h : MS B gm w0 W ls t) (ln : Ln) (ht : t = [ln.key, 61] ++ ln.body ++ [13, 10]) : MS B gm w0 W (ls ++ [ln]) [] := by
 obtain ⟨A, n, c, h1, h2⟩ := h.buf
 refine ⟨h.gd, h.kept, A, n, c, h1, ?_⟩
 rw [append_nil, qAl, qJo, <- ht]
 exact h2
theorem qRa (y : ByteArray) (b : Nat) (w : World) (h : w.cell? ⟨b, 0, none⟩ = some (.string y)) : Calls prog 91 #[.pointer (some ⟨b, 0, none⟩)] w fun e w' => e = .returned (.string y) /\ w' = w := by
 go_enter func91, ntmps91
 go_wp2
 go_ret
 exact ⟨rfl, rfl⟩
theorem jt_lu (y : ByteArray) : (jt [.lu y]).length = y.size + 4 := by
 rw [qJo]
 simp only [Ln.body, Ln.key, length_append, length_cons, length_nil, qAf]
 omega
theorem qEn {α : Type} (f : α -> Ln) (xs : List α) (k : Nat) : (jt ((xs.take k).map f)).length <= (jt (xs.map f)).length := by
 conv => rhs; rw [<- List.take_append_drop k xs]
 rw [List.map_append, qAl, length_append]
 omega
theorem qEo {α : Type} (f : α -> Ln) {xs : List α} {k : Nat} (h : k < xs.length) : (xs.take (k + 1)).map f = (xs.take k).map f ++ [f xs[k]] := by
 rw [qAt h, List.map_append]
 rfl
theorem qEh {α : Type} (f : α -> List Ln) (xs : List α) (k : Nat) : (jt ((xs.take k).flatMap f)).length <= (jt (xs.flatMap f)).length := by
 conv => rhs; rw [<- List.take_append_drop k xs]
 rw [List.flatMap_append, qAl, length_append]
 omega
theorem qEi {α : Type} (f : α -> List Ln) {xs : List α} {k : Nat} (h : k < xs.length) : (xs.take (k + 1)).flatMap f = (xs.take k).flatMap f ++ f xs[k] := by
 rw [qAt h, List.flatMap_append]
 simp
theorem MS.lt {B gm : Nat} {w0 W : World} {ls : List Ln} {t : List UInt8} (h : MS B gm w0 W ls t) : gm < W.heap.size := by
 obtain ⟨A, n, c, h1, _⟩ := h.buf
 exact Blk.lt h1
theorem zj_le {zs : List Zon} : ∀ {k : Nat}, k <= zs.length -> (zj (zs.take k)).length <= (zj zs).length := by
 intro k hk
 have hm : ∀ m, k + m <= zs.length -> (zj (zs.take k)).length <= (zj (zs.take (k + m))).length := by
  intro m
  induction m with
  | zero => exact fun _ => Nat.le_refl _
  | succ m ih =>
   intro hm
   have h1 := ih (by omega)
   have h2 := congrArg List.length (qLw (zs := zs) (k := k + m) (by omega))
   rw [Nat.add_assoc] at h2
   rw [h2]
   simp only [length_append]
   split
   · rename_i h0
     have : k = 0 := by omega
     subst this
     simp [zj, qBq, qAk]
   simp only [length_append]; omega
 have := hm (zs.length - k) (by omega)
 rwa [show k + (zs.length - k) = zs.length by omega, take_of_length_le (Nat.le_refl _)] at this
theorem jt_lz (zs : List Zon) : (jt [.lz zs]).length = (zj zs).length + 4 := by
 rw [qJo]
 simp only [Ln.body, Ln.key, length_append, length_cons, length_nil]
 unfold zj
 omega
set_option maxRecDepth 100000 in
set_option maxHeartbeats 4000000 in
theorem qL8 (x : Ssn) (D : Nat) (w : World) (vi vu ve vp vc vb vt vz vk va vm : Value) (hD : Blk w D (qEd x vi vu ve vp vc vb vt vz vk va vm) 115) (m : PSsnAt w x vi vu ve vp vc vb vt vz vk va vm) (hok : MarOk x) (htab : Lib.TabBelow prog w.heap.size w "internal/strconv.uint64pow10" .u64 Lib.pow10Tab)
 (hsz : Calls prog 55 #[.pointer (some ⟨D, 0, none⟩)] w fun e w' => ∃ n : Nat, e = .returned (.int .i64 (n : Int)) /\ n <= 140737488355328 /\ Nw w w') :
 Calls prog 53 #[.pointer (some ⟨D, 0, none⟩)] w fun e w' => ∃ v, e = .returned (.tuple #[v, .nilIface]) /\ Buf w' w.heap.size v (jt (lns x)) /\ Nw w w' := by
 have hmf : ∀ (fn : Fn) (first cap : Array Value) (w : World), (Instr.makeFunc fn first cap).run prog w = .ok (.func fn first cap) w := fun _ _ _ _ => rfl
 obtain ⟨ai, rfl⟩ := Ty.Pt_form m.info
 obtain ⟨au, rfl⟩ := Ty.Pt_form m.uri
 obtain ⟨ae, rfl⟩ := Ty.Pt_form m.email
 obtain ⟨ap, rfl⟩ := Ty.Pt_form m.phone
 obtain ⟨ac, rfl⟩ := Ty.Pt_form m.conn
 obtain ⟨ak, rfl⟩ := Ty.Pt_form m.key
 unfold qEd at hD
 have HSZ := hid hsz
 have HOK := hid hok
 have M := hid m
 obtain ⟨B, hB⟩ : ∃ n, n = w.heap.size := ⟨_, rfl⟩
 rw [<- hB] at htab
 have hBle : w.heap.size <= B := by omega
 have HBE := hid hB
 have g0 : Gd B w := ⟨by omega, htab⟩
 have hlen := hok.len
 have hlns : lns x = [.lv, .lo x.org, .ls x.name] ++ x.info.map .li ++ x.uri.map .lu ++ x.email.map .le ++ x.phone.map .lp ++ x.conn.map .lc ++ x.bws.map .lb ++ x.times.flatMap qBl ++ (if x.zones.length = 0 then [] else [.lz x.zones]) ++ x.key.map .lk ++ x.atts.map .la ++ x.media.flatMap qBn := by
  unfold lns
  simp only [append_assoc, List.cons_append, nil_append]
 have hl0 : (jt [.lv]).length + (jt [.lo x.org]).length + (jt [.ls x.name]).length + (jt (x.info.map .li)).length + (jt (x.uri.map .lu)).length + (jt (x.email.map .le)).length + (jt (x.phone.map .lp)).length + (jt (x.conn.map .lc)).length + (jt (x.bws.map .lb)).length + (jt (x.times.flatMap qBl)).length + (jt (if x.zones.length = 0 then [] else [.lz x.zones])).length + (jt (x.key.map .lk)).length + (jt (x.atts.map .la)).length + (jt (x.media.flatMap qBn)).length + 1024 <= 140737488355328 := by
  rw [hlns] at hlen
  have e : ([.lv, .lo x.org, .ls x.name] : List Ln) = [.lv] ++ [.lo x.org] ++ [.ls x.name] := rfl
  rw [e] at hlen
  simp only [qAl, length_append] at hlen
  omega
 have HL := hid hl0
 have HLNS := hid hlns
 clear hlen hlns hl0 hB hok hsz htab m
 have c0 := hD.cell 0 rfl
 rw [HOK.out.ver] at hD c0
 have K0 : Hid (KL B w .lv 87 (.int .i64 0)) := hid (fun w1 v1 l hb hg1 _ hl => by
  have := into_ver B 0 v1 l w1 hb hg1 (by unfold qAg; decide) (by rw [qJ8]; change l.length + 1 + 128 <= _ at hl; change l.length + 1 + 64 <= _; omega)
  rw [qJ8] at this
  exact this)
 have K1 : Hid (KL B w (.lo x.org) 88 (.agg #[.string x.org.user, .int .u64 x.org.id, .int .u64 x.org.ver, .string x.org.net, .string x.org.addr, .string x.org.adr])) := hid (fun w1 v1 l hb hg1 _ hl => into_org B x.org v1 l w1 hb hg1 M.out.oid M.out.over (Nat.le_trans (Nat.add_le_add_left (by decide) _) hl))
 have K2 : Hid (KL B w (.ls x.name) 89 (.string x.name)) := hid (fun w1 v1 l hb hg1 _ hl => qQ3 B x.name v1 l w1 hb hg1 (Nat.le_trans (Nat.add_le_add_left (by decide) _) hl))
 have KI : Hid (∀ y, KL B w (.li y) 90 (.string y)) := hid (fun y w1 v1 l hb hg1 _ hl => qQ4 B y v1 l w1 hb hg1 (Nat.le_trans (Nat.add_le_add_left (by decide) _) hl))
 have KE : Hid (∀ y, KL B w (.le y) 92 (.string y)) := hid (fun y w1 v1 l hb hg1 _ hl => qQ5 B y v1 l w1 hb hg1 (Nat.le_trans (Nat.add_le_add_left (by decide) _) hl))
 have KP : Hid (∀ y, KL B w (.lp y) 93 (.string y)) := hid (fun y w1 v1 l hb hg1 _ hl => qNz B y v1 l w1 hb hg1 (Nat.le_trans (Nat.add_le_add_left (by decide) _) hl))
 have KK : Hid (∀ y, KL B w (.lk y) 99 (.string y)) := hid (fun y w1 v1 l hb hg1 _ hl => into_key B y v1 l w1 hb hg1 (Nat.le_trans (Nat.add_le_add_left (by decide) _) hl))
 have KC : Hid (∀ c ∈ x.conn, ∀ p1, qHq.Pt w c.adrs p1 -> KL B w (.lc c) 94 (.agg #[.string c.net, .string c.addr, p1])) := hid (fun c hc p1 hp w1 v1 l hb hg1 hn hl => qM7 B c p1 w w1 v1 l hp hn hBle hb hg1 (HOK.out.con c hc) (Nat.le_trans (Nat.add_le_add_left (by decide) _) hl))
 have HD := hid hD
 go_enter func53, ntmps53
 go_upto_region 2 with (first
  | (go_at_call 55; (with_reducible refine HSZ.out.mono ?_); rintro e w1 ⟨cap, rfl, hcap, hn1⟩; have g1 : Gd B w1 := g0.on (Mk.ofNw (b := none) hn1 g0.le))
  | (refine qAc rfl fun K hK => ?_; (with_reducible refine buf_make B (.const (.int .i64 0)) (.tmp 22) 193 cap ?_ underlying193 qDa ?_ ?_ hcap g1.le ?_); (focus rfl); (focus rfl); (focus rfl); intro w2 hb2 hn2; refine hK _ _ ?_))
 obtain ⟨gm, w3, hG3, hs3, hgm, e1, e2⟩ := qEm w2 [.slice (some ⟨w1.heap.size, 0, none⟩) 0 cap] 193
 have hM0 : MS B gm w3 w3 [] [] := ⟨g1.on (Mk.ofNw (b := none) (hn2.trans hs3) g1.le), Mk.refl _ _ _, _, _, _, hG3, hb2.nw hs3⟩
 have hgB : B <= gm := Nat.le_trans g1.le (Nat.le_trans hn2.size hgm)
 have nA : Nw w w3 := (hn1.trans hn2).trans hs3
 rw [<- e1, <- e2]
 clear e1 e2 c0 g0 hb2 hn2 hn1 hs3 hG3 g1 hcap hgm
 have n0 := nA
 have d0_0 := (HD.out.nw n0).cell 0 rfl
 go_upto_region 5 with (first
  | (go_at_call 86; (with_reducible refine (kv K0 ⟨#[118, 61]⟩ rfl enters87 hM0 n0 hBle hgB (by have h9 := HL.out; simp only [qD9, qAl, qA7, length_append, length_nil]; omega)).mono ?_); rintro e W1 ⟨rfl, hM1, hk1⟩; have n1 := hM1.nw nA hBle; have d1_1 := (HD.out.nw n1).cell 1 rfl; have d1_2 := (HD.out.nw n1).cell 2 rfl; have d1_3 := (HD.out.nw n1).cell 3 rfl; have d1_4 := (HD.out.nw n1).cell 4 rfl; have d1_5 := (HD.out.nw n1).cell 5 rfl; have d1_6 := (HD.out.nw n1).cell 6 rfl)
  | (go_at_call 86; (with_reducible refine (kv K1 ⟨#[111, 61]⟩ rfl enters88 hM1 n1 hBle hgB (by have h9 := HL.out; simp only [qD9, qAl, qA7, length_append, length_nil]; omega)).mono ?_); rintro e W2 ⟨rfl, hM2, hk2⟩; have n2 := hM2.nw nA hBle; have d2_7 := (HD.out.nw n2).cell 7 rfl)
  | (go_at_call 86; (with_reducible refine (kv K2 ⟨#[115, 61]⟩ rfl enters89 hM2 n2 hBle hgB (by have h9 := HL.out; simp only [qD9, qAl, qA7, length_append, length_nil]; omega)).mono ?_); rintro e W3 ⟨rfl, hM3, hk3⟩; have n3 := hM3.nw nA hBle; have d3_8 := (HD.out.nw n3).cell 8 rfl))
 have hM3 : MS B gm w3 W3 (L3 x) [] := hM3
 clear K0 K1 K2 d1_1 d1_2 d1_3 d1_4 d1_5 d1_6 d2_7 d0_0 hM0 hM1 hM2 n0 n1 n2
 go_upto_if 46 with fail
 go_cut [] from 47 to 54 (fun wc => MS B gm w3 wc (L4 x) [])
 case first =>
  as_aux_lemma =>
   rcases M.out.info with ⟨e, hv⟩ | ⟨y2, b2, e, hv, hy⟩ <;> (injection hv with hv; subst hv)
   · go_wp2
     go_meet
     case rel => (unfold L4; rw [e]; simpa using hM3)
   obtain ⟨dy, fy⟩ := qEg hy
   have d9 := n3.cell dy
   have el : (jt (x.info.map .li)).length = (jt [.li y2]).length := by rw [e]; rfl
   have KY := hid (KI.out y2)
   go_wp2_with (go_at_call 86; (with_reducible refine (kv KY ⟨#[105, 61]⟩ rfl qM9 hM3 n3 hBle hgB (by have h9 := HL.out; simp only [qD9, qAl, qA7, length_append, length_nil]; omega)).mono ?_); rintro e W99 ⟨rfl, hM99, hk99⟩; have n99 := hM99.nw nA hBle)
   go_meet
   case rel => (unfold L4; rw [e]; exact hM99)
 as_aux_lemma =>
  have hM4 : MS B gm w3 wc (L4 x) [] := hcut
  obtain ⟨W4, hW4⟩ : ∃ z, z = wc := ⟨_, rfl⟩
  rw [<- hW4] at hM4 ⊢
  clear hW4 hcut hM3 n3 d3_8
  have n4 := hM4.nw nA hBle
  have d4_9 := (HD.out.nw n4).cell 9 rfl
  go_upto_if 59 with fail
  go_cut [] from 60 to 70 (fun wc => MS B gm w3 wc (L5 x) [])
  case first =>
   as_aux_lemma =>
    rcases M.out.uri with ⟨e, hv⟩ | ⟨y, b, e, hv, hy⟩ <;> (injection hv with hv; subst hv)
    · go_wp2
      go_meet
      case rel => (unfold L5; rw [e]; simpa using hM4)
    obtain ⟨dy, fy⟩ := qEg hy
    have hN70 := hM4
    obtain ⟨Au, nu, cu, hGu, hb69⟩ := hM4.buf
    have hN69 := hM4
    have u69 := hGu.cell 0 rfl
    have z69 := hGu.fz 0
    have el : (jt (x.uri.map .lu)).length = y.size + 4 := by rw [e]; exact jt_lu y
    have HE := hid e
    clear e
    have hl9 : (jt (L4 x)).length + y.size + 600 <= 140737488355328 := by have h9 := HL.out; simp only [qD9, qAl, qA7, length_append, length_nil]; omega
    have HL9 := hid hl9
    clear hl9 el
    go_upto_region 9 with (refine qAc rfl fun K hK => ?_; (with_reducible refine qA9 B (.tmp 60) (.const (.string ⟨#[117, 61]⟩)) 193 9 ?_ underlying193 underlying9 qDa _ _ ⟨#[117, 61]⟩ ?_ ?_ hb69 hN69.gd.le ?_ ?_); (focus rfl); (focus rfl); (focus rfl); (focus (show (jt (L4 x) ++ []).length + 2 <= 140737488355328; rw [append_nil]; have := HL9.out; omega)); intro v70 X70 hb70 hm70; obtain ⟨A70, n70', c70, rfl⟩ := hb70.form3; refine hK _ _ ?_; obtain ⟨hN71, u71, z71, z70, v70, u70⟩ := hN69.put hgB (s := [117, 61]) hb70 hm70)
    have q71 := hN71.nw nA hBle
    obtain ⟨Y71, hY71⟩ : ∃ z, z = X70.setCell ⟨gm, 0, none⟩ (.slice A70 n70' c70) := ⟨_, rfl⟩
    rw [<- hY71] at hN71 u71 z71 q71 ⊢
    clear hY71
    refine qAv 7 (fun w' => w'.cell? ⟨gm, 0, none⟩ = some (.slice A70 n70' c70) /\ w'.cell? ⟨D, 9, none⟩ = some (.pointer (some ⟨b, 0, none⟩))) (by kernel_rfl) ⟨u71, (HD.out.nw q71).cell 9 rfl⟩ (fun hHeld => ?_)
    obtain ⟨Y0, hY0⟩ : ∃ z, z = Y71.drew := ⟨_, rfl⟩
    have hN72 : MS B gm w3 Y0 (L4 x) ([] ++ [117, 61]) := by rw [hY0]; exact hN71.on (Nw.refl Y71).drew
    have q72 := hN72.nw nA hBle
    rw [<- hY0] at hHeld ⊢
    clear hY0
    refine' tkZ 0 [7] (oi := ?o901) (v := ?v901) ?h901 (by kernel_rfl) ?q901 (Or.inl ⟨?w901, ?y901⟩) hHeld ?r901
    case h901 => rfl
    case q901 => exact fun _ _ _ h => h
    case w901 => rfl
    case y901 => (intro w hSw; go_simp; first | done | (with_reducible rfl))
    try simp only [sP]
    refine' tkZ 1 [7] (oi := ?o902) (v := ?v902) ?h902 (by kernel_rfl) ?q902 (Or.inl ⟨?w902, ?y902⟩) hHeld ?r902
    case h902 => rfl
    case q902 => exact fun _ _ _ h => h
    case w902 => rfl
    case y902 => (intro w hSw; go_simp; first | done | (with_reducible rfl))
    try simp only [sP]
    refine' tkZ 2 [7] (oi := ?o903) (v := ?v903) ?h903 (by kernel_rfl) ?q903 (Or.inl ⟨?w903, ?y903⟩) hHeld ?r903
    case h903 => rfl
    case q903 => exact fun _ _ _ h => h
    case w903 => rfl
    case y903 => (intro w hSw; go_simp; first | done | (with_reducible rfl))
    try simp only [sP]
    refine' tkZ 3 [7] (oi := ?o904) (v := ?v904) ?h904 (by kernel_rfl) ?q904 (Or.inl ⟨?w904, ?y904⟩) hHeld ?r904
    case h904 => rfl
    case q904 => exact fun _ _ _ h => h
    case w904 => rfl
    case y904 => (intro w hSw; go_simp; first | done | (with_reducible rfl))
    try simp only [sP]
    refine' tkZ 4 [7] (oi := ?o905) (v := ?v905) ?h905 (by kernel_rfl) ?q905 (Or.inl ⟨?w905, ?y905⟩) hHeld ?r905
    case h905 => rfl
    case q905 => exact fun _ _ _ h => h
    case w905 => rfl
    case y905 => (intro w hSw; go_simp; first | done | (with_reducible rfl))
    try simp only [sP]
    refine' qB9 5 (by kernel_rfl) rfl (by decide) (fun K hK => ?_)
    (go_simp; go_at_call 91; (with_reducible refine (qRa y b _ (q72.cell dy)).mono ?_); rintro r Y3 ⟨rfl, hww⟩; have hww := hww.symm; subst hww)
    refine hK.out _ _ ?_ (fun hHeld => ?_)
    · exact hHeld
    clear hK K
    try simp only [sP]
    obtain ⟨A72, n72, c72, hG72, hb72⟩ := hN72.buf
    obtain ⟨e1, e2, e3⟩ : A72 = A70 /\ n72 = n70' /\ c72 = c70 := by
     have h1 := hG72.cell 0 rfl
     have h2 := hHeld.1
     rw [h1] at h2
     injection h2 with h2
     injection h2 with h3 h4 h5
     exact ⟨h3, h4, h5⟩
    subst e1; subst e2; subst e3
    refine' qB9 6 (by kernel_rfl) rfl (by decide) (fun K hK => ?_)
    (refine qA3 rfl ?_; (with_reducible refine qA9 B (.tmp 62) (.tmp 67) 193 9 ?_ underlying193 underlying9 qDa _ _ y ?_ ?_ hb72 hN72.gd.le ?_ ?_); (focus rfl); (focus rfl); (focus rfl); (focus (show (jt (L4 x) ++ ([] ++ [117, 61])).length + y.size <= 140737488355328; have := HL9.out; simp only [length_append, length_cons, length_nil] at *; omega)); intro v73 X73 hb73 hm73; obtain ⟨A73, n73', c73, rfl⟩ := hb73.form3; obtain ⟨hN74, u74, z74, z73, v73, u73⟩ := hN72.put hgB hb73 hm73; have q73 := Mk.nw hm73 q72 hBle)
    refine hK.out _ _ ?_ (fun hHeld => ?_)
    · exact ⟨(hm73.blk hG72 (by decide) (by simp)).cell 0 rfl, (HD.out.nw q73).cell 9 rfl⟩
    clear hK K
    try simp only [sP]
    refine' qBr (by kernel_rfl) rfl (by kernel_rfl) (fun K hK => ?_)
    go_simp
    refine hK.out _ _ ?_
    clear hK K
    obtain ⟨Y74, hY74⟩ : ∃ z, z = X73.setCell ⟨gm, 0, none⟩ (.slice A73 n73' c73) := ⟨_, rfl⟩
    rw [<- hY74] at hN74 u74 z74 ⊢
    clear hY74
    have hb74 := hN74
    obtain ⟨A74, n74, c74, hG74, hb74⟩ := hN74.buf
    obtain ⟨e1, e2, e3⟩ : A74 = A73 /\ n74 = n73' /\ c74 = c73 := by
     have h1 := hG74.cell 0 rfl
     rw [h1] at u74
     injection u74 with h2
     injection h2 with h3 h4 h5
     exact ⟨h3, h4, h5⟩
    subst e1; subst e2; subst e3
    go_wp2_with (refine qAc rfl fun K hK => ?_; (with_reducible refine qA9 B (.tmp 69) (.const (.string ⟨#[13, 10]⟩)) 193 9 ?_ underlying193 underlying9 qDa _ _ ⟨#[13, 10]⟩ ?_ ?_ hb74 hN74.gd.le ?_ ?_); (focus rfl); (focus rfl); (focus rfl); (focus (show (jt (L4 x) ++ ([] ++ [117, 61] ++ bs y)).length + 2 <= 140737488355328; have := HL9.out; simp only [length_append, length_cons, length_nil, qAf] at *; omega)); intro v75 X75 hb75 hm75; obtain ⟨A75, n75', c75, rfl⟩ := hb75.form3; refine hK _ _ ?_; obtain ⟨hN76, u76, z76, z75, v75, u75⟩ := hN74.put hgB (s := [13, 10]) hb75 hm75)
    go_meet
    case rel => (unfold L5; rw [HE.out]; exact hN76.line (.lu y) rfl)
  as_aux_lemma =>
   have hM5 : MS B gm w3 wc (L5 x) [] := hcut
   obtain ⟨W5, hW5⟩ : ∃ z, z = wc := ⟨_, rfl⟩
   rw [<- hW5] at hM5 ⊢
   clear hW5 hcut hM4 n4
   have n5 := hM5.nw nA hBle
   have d5_10 := (HD.out.nw n5).cell 10 rfl
   go_upto_if 75 with fail
   go_cut [] from 76 to 83 (fun wc => MS B gm w3 wc (L6 x) [])
   case first =>
    as_aux_lemma =>
     rcases M.out.email with ⟨e, hv⟩ | ⟨y2, b2, e, hv, hy⟩ <;> (injection hv with hv; subst hv)
     · go_wp2
       go_meet
       case rel => (unfold L6; rw [e]; simpa using hM5)
     obtain ⟨dy, fy⟩ := qEg hy
     have d9 := n5.cell dy
     have el : (jt (x.email.map .le)).length = (jt [.le y2]).length := by rw [e]; rfl
     have KY := hid (KE.out y2)
     go_wp2_with (go_at_call 86; (with_reducible refine (kv KY ⟨#[101, 61]⟩ rfl enters92 hM5 n5 hBle hgB (by have h9 := HL.out; simp only [qD9, qAl, qA7, length_append, length_nil]; omega)).mono ?_); rintro e W99 ⟨rfl, hM99, hk99⟩; have n99 := hM99.nw nA hBle)
     go_meet
     case rel => (unfold L6; rw [e]; exact hM99)
   as_aux_lemma =>
    have hM6 : MS B gm w3 wc (L6 x) [] := hcut
    obtain ⟨W6, hW6⟩ : ∃ z, z = wc := ⟨_, rfl⟩
    rw [<- hW6] at hM6 ⊢
    clear hW6 hcut hM5 n5 d5_10
    have n6 := hM6.nw nA hBle
    have d6_11 := (HD.out.nw n6).cell 11 rfl
    go_upto_if 88 with fail
    go_cut [] from 89 to 96 (fun wc => MS B gm w3 wc (L7 x) [])
    case first =>
     as_aux_lemma =>
      rcases M.out.phone with ⟨e, hv⟩ | ⟨y2, b2, e, hv, hy⟩ <;> (injection hv with hv; subst hv)
      · go_wp2
        go_meet
        case rel => (unfold L7; rw [e]; simpa using hM6)
      obtain ⟨dy, fy⟩ := qEg hy
      have d9 := n6.cell dy
      have el : (jt (x.phone.map .lp)).length = (jt [.lp y2]).length := by rw [e]; rfl
      have KY := hid (KP.out y2)
      go_wp2_with (go_at_call 86; (with_reducible refine (kv KY ⟨#[112, 61]⟩ rfl enters93 hM6 n6 hBle hgB (by have h9 := HL.out; simp only [qD9, qAl, qA7, length_append, length_nil]; omega)).mono ?_); rintro e W99 ⟨rfl, hM99, hk99⟩; have n99 := hM99.nw nA hBle)
      go_meet
      case rel => (unfold L7; rw [e]; exact hM99)
    as_aux_lemma =>
     have hM7 : MS B gm w3 wc (L7 x) [] := hcut
     obtain ⟨W7, hW7⟩ : ∃ z, z = wc := ⟨_, rfl⟩
     rw [<- hW7] at hM7 ⊢
     clear hW7 hcut hM6 n6 d6_11
     have n7 := hM7.nw nA hBle
     have d7_12 := (HD.out.nw n7).cell 12 rfl
     go_upto_if 101 with fail
     go_cut [] from 102 to 109 (fun wc => MS B gm w3 wc (L8 x) [])
     case first =>
      as_aux_lemma =>
       rcases M.out.conn with ⟨e, hv⟩ | ⟨y2, b2, e, hv, hy⟩ <;> (injection hv with hv; subst hv)
       · go_wp2
         go_meet
         case rel => (unfold L8; rw [e]; simpa using hM7)
       obtain ⟨cs, ⟨p1, rfl, f1, f2, hp1⟩, hc⟩ := hy 0 y2 rfl
       have d9 : W7.cell? ⟨b2, 0, none⟩ = some (.string y2.net) := n7.cell (hc 0 _ rfl)
       have d10 : W7.cell? ⟨b2, 1, none⟩ = some (.string y2.addr) := n7.cell (hc 1 _ rfl)
       have d11 : W7.cell? ⟨b2, 2, none⟩ = some p1 := n7.cell (hc 2 _ rfl)
       have el : (jt (x.conn.map .lc)).length = (jt [.lc y2]).length := by rw [e]; rfl
       have KY := hid (KC.out y2 (by rw [e]; exact List.mem_cons_self) p1 hp1)
       go_wp2_with (go_at_call 86; (with_reducible refine (kv KY ⟨#[99, 61]⟩ rfl qNa hM7 n7 hBle hgB (by have h9 := HL.out; simp only [qD9, qAl, qA7, length_append, length_nil]; omega)).mono ?_); rintro e W99 ⟨rfl, hM99, hk99⟩; have n99 := hM99.nw nA hBle)
       go_meet
       case rel => (unfold L8; rw [e]; exact hM99)
     as_aux_lemma =>
      have hM8 : MS B gm w3 wc (L8 x) [] := hcut
      obtain ⟨W8, hW8⟩ : ∃ z, z = wc := ⟨_, rfl⟩
      rw [<- hW8] at hM8 ⊢
      clear hW8 hcut hM7 n7 d7_12
      have n8 := hM8.nw nA hBle
      have d8_13 := (HD.out.nw n8).cell 13 rfl
      obtain ⟨Al, nl, hvl⟩ := Ty.Sl_form M.out.bws
      subst hvl
      apply_assumption
      apply wp_seq_k
      intro Kn hKn
      go_cut [] from 110 to 122 (fun wc => MS B gm w3 wc (L9 x) [])
      case first =>
       as_aux_lemma =>
        have hmx := M.out.bws.1
        go_wp2
        go_loopw [115] (fun i wr => ∃ kk : Nat, kk <= x.bws.length /\ i = .int .i64 kk /\ MS B gm w3 wr (L8 x ++ (x.bws.take kk).map Ln.lb) []) (fun i _ => x.bws.length - (intOf i).toNat)
        case atStart => exact ⟨0, Nat.zero_le _, rfl, by simpa using hM8⟩
        obtain ⟨kk, hk, rfl, hMk⟩ := hrel
        by_cases hlt : kk < x.bws.length
        · obtain ⟨b2, o, hAl, ha⟩ := Ty.Sl_at M.out.bws kk hlt
          subst hAl
          obtain ⟨cs, hrl, hx⟩ := ha kk _ (List.getElem?_eq_getElem hlt)
          obtain ⟨y2, hy⟩ : ∃ yy, yy = x.bws[kk] := ⟨_, rfl⟩
          have hym : y2 ∈ x.bws := by rw [hy]; exact getElem_mem hlt
          rw [<- hy] at hrl
          obtain ⟨rfl, hwf⟩ := hrl
          have hnw := hMk.nw nA hBle
          have e9_0 := hnw.cell (hx 0 _ rfl); have e9_1 := hnw.cell (hx 1 _ rfl); have e9_2 := hnw.cell (hx 2 _ rfl)
          simp only [qBx, Ty.flat, Nat.add_zero] at e9_0 e9_1 e9_2
          have k1 : (0 : Int) <= (kk : Int) := by omega
          have k2 : (kk : Int) < (x.bws.length : Int) := by omega
          have k3 : (kk : Int) <= (x.bws.length : Int) := by omega
          have hsn := qEo Ln.lb hlt
          rw [<- hy] at hsn
          have hle := qEn Ln.lb x.bws (kk + 1)
          rw [hsn, qAl, length_append] at hle
          have HSN2 := hid hsn
          have HLE2 := hid hle
          have KY : Hid (KL B w (.lb y2) 95 (.agg #[.bool y2.x, .string y2.ty, .int .u64 y2.n])) := hid (fun w1 v1 l hb hg1 _ hl => qQ6 B y2 v1 l w1 hb hg1 hwf.2 (Nat.le_trans (Nat.add_le_add_left (by decide) _) hl))
          have hMa := hMk.alloc (.cells #[.bool y2.x, .string y2.ty, .int .u64 y2.n] 198)
          have hna := hMa.nw nA hBle
          clear hx ha hy hsn hle
          go_wp2_with (go_at_call 86; (with_reducible refine (kv KY ⟨#[98, 61]⟩ rfl qNb hMa hna hBle hgB (by have h9 := HL.out; have h8 := HLE2.out; simp only [qD9, qAl, qA7, length_append, length_nil]; omega)).mono ?_); rintro e W99 ⟨rfl, hM99, hk99⟩)
          exact ⟨⟨kk + 1, by omega, by go_num, by rw [HSN2.out, <- append_assoc]; exact hM99⟩, by simp [intOf]; omega⟩
        rw [show x.bws.take kk = x.bws from take_of_length_le (by omega)] at hMk
        go_wp2
        go_meet
        case rel => exact hMk
      as_aux_lemma =>
       have hM9 : MS B gm w3 wc (L9 x) [] := hcut
       obtain ⟨W9, hW9⟩ : ∃ z, z = wc := ⟨_, rfl⟩
       rw [<- hW9] at hM9 ⊢
       clear hW9 hcut hM8 n8 d8_13
       have n9 := hM9.nw nA hBle
       have d9_14 := (HD.out.nw n9).cell 14 rfl
       obtain ⟨Al, nl, hvl⟩ := Ty.Sl_form M.out.times
       subst hvl
       apply_assumption
       apply wp_seq_k
       intro Kn hKn
       go_cut [] from 123 to 147 (fun wc => MS B gm w3 wc (L10 x) [])
       case first =>
        as_aux_lemma =>
         have hmx := M.out.times.1
         go_wp2
         go_loopw [128] (fun i wr => ∃ k : Nat, k <= x.times.length /\ i = .int .i64 k /\ MS B gm w3 wr (L9 x ++ (x.times.take k).flatMap qBl) []) (fun i _ => x.times.length - (intOf i).toNat)
         case atStart => exact ⟨0, Nat.zero_le _, rfl, by simpa using hM9⟩
         obtain ⟨k, hk, rfl, hMk⟩ := hrel
         by_cases hlt : k < x.times.length
         · obtain ⟨b, o, hAl, ha⟩ := Ty.Sl_at M.out.times k hlt
           subst hAl
           obtain ⟨cs, hrl, hx⟩ := ha k _ (List.getElem?_eq_getElem hlt)
           obtain ⟨y, hy⟩ : ∃ y, y = x.times[k] := ⟨_, rfl⟩
           rw [<- hy] at hrl
           obtain ⟨p1, rfl, f1, f2, hrs⟩ := hrl
           obtain ⟨Ar, nr, rfl⟩ := Ty.Sl_form hrs
           have hmr := hrs.1
           have hnw := hMk.nw nA hBle
           have e9_0 := hnw.cell (hx 0 _ rfl)
           have e9_1 := hnw.cell (hx 1 _ rfl)
           have e9_2 := hnw.cell (hx 2 _ rfl)
           simp only [qCc, Nat.add_zero] at e9_0 e9_1 e9_2
           have k1 : (0 : Int) <= (k : Int) := by omega
           have k2 : (k : Int) < (x.times.length : Int) := by omega
           have k3 : (k : Int) <= (x.times.length : Int) := by omega
           have hsn := qEi qBl hlt
           rw [<- hy] at hsn
           have hle := qEh qBl x.times (k + 1)
           rw [hsn, qAl, length_append] at hle
           have e0 : qBl y = [.lt y] ++ y.reps.map .lr := rfl
           rw [e0, qAl, length_append] at hle
           have HSN := hid hsn
           have HLE := hid hle
           have KY : Hid (KL B w (.lt y) 96 (.agg #[.int .u64 y.start, .int .u64 y.stop])) := hid (fun w1 v1 l hb hg1 _ hl => into_tim B y.start y.stop v1 l w1 hb hg1 f1 f2 (Nat.le_trans (Nat.add_le_add_left (by decide) _) hl))
           obtain ⟨g8, w8, hB8, hs8, hge8, a1, a2⟩ := qEm wr [.int .u64 y.start, .int .u64 y.stop, .slice Ar y.reps.length nr] 177
           have hMa : MS B gm w3 w8 (L9 x ++ (x.times.take k).flatMap qBl) [] := hMk.on hs8
           have hna := hMa.nw nA hBle
           have hgg : ¬ g8 = gm := by have := hMk.lt; omega
           have q8_0 := hB8.cell 0 rfl
           have q8_1 := hB8.cell 1 rfl
           have q8_2 := hB8.cell 2 rfl
           have HRS := hid hrs
           clear hx ha hy hsn hle e0 hrs
           go_upto_region 25 with fail
           rw [<- a1, <- a2]
           clear a1 a2
           go_wp2_with (go_at_call 86; (with_reducible refine (kv KY ⟨#[116, 61]⟩ rfl enters96 hMa hna hBle hgB (by have h9 := HL.out; have h8 := HLE.out; simp only [qD9, qAl, qA7, length_append, length_nil]; omega)).mono ?_); rintro e W99 ⟨rfl, hM99, hk99⟩; have hB9 := hk99.blk hB8 (by decide) (by simpa using hgg); have q9_2 := hB9.cell 2 rfl)
           go_loopw [139] (fun i wr2 => ∃ j : Nat, j <= y.reps.length /\ i = .int .i64 j /\ MS B gm w3 wr2 (L9 x ++ (x.times.take k).flatMap qBl ++ [Ln.lt y] ++ (y.reps.take j).map Ln.lr) []) (fun i _ => y.reps.length - (intOf i).toNat)
           case atStart => exact ⟨0, Nat.zero_le _, rfl, by simpa using hM99⟩
           obtain ⟨j, hj, rfl, hMj⟩ := hrel
           by_cases hltj : j < y.reps.length
           · obtain ⟨b2, o2, hAr, har⟩ := Ty.Sl_at HRS.out j hltj
             subst hAr
             obtain ⟨cs2, hrl2, hx2⟩ := har j _ (List.getElem?_eq_getElem hltj)
             obtain ⟨r, hr⟩ : ∃ r, r = y.reps[j] := ⟨_, rfl⟩
             rw [<- hr] at hrl2
             obtain ⟨p2, rfl, f3, f4, hof⟩ := hrl2
             obtain ⟨Ao, no, rfl⟩ := Ty.Sl_form hof
             have hnj := hMj.nw nA hBle
             have t9_0 := hnj.cell (hx2 0 _ rfl)
             have t9_1 := hnj.cell (hx2 1 _ rfl)
             have t9_2 := hnj.cell (hx2 2 _ rfl)
             simp only [qDc, Nat.add_zero] at t9_0 t9_1 t9_2
             have j1 : (0 : Int) <= (j : Int) := by omega
             have j2 : (j : Int) < (y.reps.length : Int) := by omega
             have j3 : (j : Int) <= (y.reps.length : Int) := by omega
             have hsn2 := qEo Ln.lr hltj
             rw [<- hr] at hsn2
             have hle2 := qEn Ln.lr y.reps (j + 1)
             rw [hsn2, qAl, length_append] at hle2
             have HSN2 := hid hsn2
             have HLE2 := hid hle2
             have KR : Hid (KL B w (.lr r) 97 (.agg #[.int .i64 r.ivl, .int .i64 r.dur, .slice Ao r.offs.length no])) := hid (fun w1 v1 l hb hg1 hn1 hl => into_rep B r _ w w1 v1 l hof hn1 hBle hb hg1 f3 f4 (Nat.le_trans (Nat.add_le_add_left (by decide) _) hl))
             have hMb := hMj.alloc (.cells #[.int .i64 r.ivl, .int .i64 r.dur, .slice Ao r.offs.length no] 178)
             have hnb := hMb.nw nA hBle
             clear hx2 har hr hsn2 hle2 hof
             go_wp2_with (go_at_call 86; (with_reducible refine (kv KR ⟨#[114, 61]⟩ rfl enters97 hMb hnb hBle hgB (by have h9 := HL.out; have h8 := HLE.out; have h7 := HLE2.out; simp only [qD9, qAl, qA7, length_append, length_nil]; omega)).mono ?_); rintro e W98 ⟨rfl, hM98, hk98⟩)
             exact ⟨⟨j + 1, by omega, by go_num, by rw [HSN2.out, <- append_assoc]; exact hM98⟩, by simp [intOf]; omega⟩
           rw [show y.reps.take j = y.reps from take_of_length_le (by omega)] at hMj
           go_wp2
           exact ⟨⟨k + 1, by omega, by go_num, by rw [HSN.out, <- append_assoc]; simpa only [qBl, append_assoc, List.cons_append, nil_append] using hMj⟩, by simp [intOf]; omega⟩
         rw [take_of_length_le (by omega)] at hMk
         go_wp2
         go_meet
         case rel => exact hMk
       as_aux_lemma =>
        have hM10 : MS B gm w3 wc (L10 x) [] := hcut
        obtain ⟨W10, hW10⟩ : ∃ z, z = wc := ⟨_, rfl⟩
        rw [<- hW10] at hM10 ⊢
        clear hW10 hcut hM9 n9 d9_14
        have n10 := hM10.nw nA hBle
        have d10_15 := (HD.out.nw n10).cell 15 rfl
        obtain ⟨Al, nl, hvl⟩ := Ty.Sl_form M.out.zones
        subst hvl
        go_upto_if 153 with fail
        go_cut [] from 153 to 176 (fun wc => MS B gm w3 wc (L11 x) [])
        case first =>
         as_aux_lemma =>
          by_cases hz0 : x.zones.length = 0
          · have hz1 : ¬ (0 : Int) < (x.zones.length : Int) := by omega
            have HZ0 := hid hz0
            clear hz0
            go_wp2
            go_meet
            case rel => (unfold L11; rw [if_pos HZ0.out]; simpa using hM10)
          have hz1 : (0 : Int) < (x.zones.length : Int) := by omega
          have hmx := M.out.zones.1
          have el : (jt (if x.zones.length = 0 then [] else [Ln.lz x.zones])).length = (zj x.zones).length + 4 := by rw [if_neg hz0]; exact jt_lz _
          have hl9 : (jt (L10 x)).length + (zj x.zones).length + 600 <= 140737488355328 := by have h9 := HL.out; simp only [qD9, qAl, qA7, length_append, length_nil]; omega
          have HL9 := hid hl9
          have HZ0 := hid hz0
          have hN69 := hM10
          obtain ⟨Au, nu, cu, hGu, hb69⟩ := hM10.buf
          have u69 := hGu.cell 0 rfl
          have z69 := hGu.fz 0
          clear hl9 el hz0
          go_upto_region 34 with (refine qAc rfl fun K hK => ?_; (with_reducible refine qA9 B (.tmp 154) (.const (.string ⟨#[122, 61]⟩)) 193 9 ?_ underlying193 underlying9 qDa _ _ ⟨#[122, 61]⟩ ?_ ?_ hb69 hN69.gd.le ?_ ?_); (focus rfl); (focus rfl); (focus rfl); (focus (show (jt (L10 x) ++ []).length + 2 <= 140737488355328; rw [append_nil]; have := HL9.out; omega)); intro v70 X70 hb70 hm70; obtain ⟨A70, n70', c70, rfl⟩ := hb70.form3; refine hK _ _ ?_; obtain ⟨hN71, u71, z71, z70, v70, u70⟩ := hN69.put hgB (s := [122, 61]) hb70 hm70)
          have q71 := hN71.nw nA hBle
          obtain ⟨Y71, hY71⟩ : ∃ z, z = X70.setCell ⟨gm, 0, none⟩ (.slice A70 n70' c70) := ⟨_, rfl⟩
          rw [<- hY71] at hN71 u71 z71 q71 ⊢
          clear hY71
          have d71 := (HD.out.nw q71).cell 15 rfl
          go_wp2
          go_loopw [161] (fun i wr => ∃ k : Nat, k <= x.zones.length /\ i = .int .i64 k /\ MS B gm w3 wr (L10 x) ([122, 61] ++ zj (x.zones.take k))) (fun i _ => x.zones.length - (intOf i).toNat)
          case atStart => exact ⟨0, Nat.zero_le _, rfl, by simpa [zj, qBq, qAk] using hN71⟩
          obtain ⟨k, hk, rfl, hMk⟩ := hrel
          by_cases hlt : k < x.zones.length
          · obtain ⟨b, o, hAl, ha⟩ := Ty.Sl_at M.out.zones k hlt
            subst hAl
            obtain ⟨cs, hrl, hx⟩ := ha k _ (List.getElem?_eq_getElem hlt)
            obtain ⟨y, hy⟩ : ∃ y, y = x.zones[k] := ⟨_, rfl⟩
            rw [<- hy] at hrl
            obtain ⟨rfl, f1, f2⟩ := hrl
            have hnw := hMk.nw nA hBle
            have e9_0 := hnw.cell (hx 0 _ rfl)
            have e9_1 := hnw.cell (hx 1 _ rfl)
            simp only [qDt, Ty.flat, Nat.add_zero] at e9_0 e9_1
            have k1 : (0 : Int) <= (k : Int) := by omega
            have k2 : (k : Int) < (x.zones.length : Int) := by omega
            have k3 : (k : Int) <= (x.zones.length : Int) := by omega
            have hsn := qLw hlt
            rw [<- hy] at hsn
            have hle := zj_le (zs := x.zones) (k := k + 1) (by omega)
            rw [hsn] at hle
            have HSN := hid hsn
            have HLE := hid hle
            obtain ⟨g12, w84, hB12, hs84, hge12, a1, a2⟩ := qEm wr [.int .u64 y.time, .int .i64 y.off] 181
            have hN84 := hMk.on hs84
            obtain ⟨A84, n84, c84, hG84, hb84⟩ := hN84.buf
            have u84 := hG84.cell 0 rfl
            have z84 := hG84.fz 0
            have q84_0 := hB12.cell 0 rfl
            have q84_1 := hB12.cell 1 rfl
            have hgg : ¬ g12 = gm := by have := hMk.lt; omega
            clear hx ha hy hsn hle
            go_upto_region 37 with fail
            rw [<- a1, <- a2]
            clear a1 a2
            by_cases hk0 : k = 0
            · have hk1 : ¬ (0 : Int) < (k : Int) := by omega
              have HK0 := hid hk0
              have e0 : zj (x.zones.take k) = [] := by rw [hk0]; rfl
              rw [e0, append_nil] at hN84 hb84
              clear hk0 e0
              go_wp2_with (go_at_call 98; (with_reducible refine (qM6 B y.time y.off _ _ _ hb84 hN84.gd f1 f2 (by have h7 := HLE.out; have h8 := HL9.out; rw [if_pos HK0.out] at h7; simp only [length_append, length_cons, length_nil] at *; omega)).mono ?_); rintro e X85 ⟨v85, rfl, hb85, hm85⟩; obtain ⟨A85, n85, c85, rfl⟩ := hb85.form3; obtain ⟨hN86, u86, z86, z85, v85, u85⟩ := hN84.put hgB (s := (Lib.decDigits (Int.toNat y.time)) ++ (32 :: (itoa y.off))) hb85 hm85)
              refine ⟨⟨k + 1, by omega, by go_num, ?_⟩, by simp [intOf]; omega⟩
              rw [HSN.out, if_pos HK0.out, nil_append]
              exact hN86
            have hk1 : (0 : Int) < (k : Int) := by omega
            have HK0 := hid hk0
            clear hk0
            go_wp2_with (first
             | (refine qAc rfl fun K hK => ?_; (with_reducible refine qBe B (.tmp 168) (.tmp 169) 193 ?_ underlying193 qDa _ _ (32 : UInt8) 32 ?_ ?_ ?_ hb84 hN84.gd.le ?_ ?_); (focus rfl); (focus rfl); (focus rfl); (focus rfl); (focus (have h7 := HLE.out; have h8 := HL9.out; rw [if_neg HK0.out] at h7; simp only [length_append, length_cons, length_nil] at *; omega)); intro v85 X85 hb85 hm85; obtain ⟨A85, n85, c85, rfl⟩ := hb85.form3; refine hK _ _ ?_; obtain ⟨hN86, u86, z86, z85, v85, u85⟩ := hN84.put hgB (s := [32]) hb85 hm85; have hG85 := hm85.blk hG84 (by decide) (by simp); have hb86 := hb85.set (j := 0) hG85 (by decide) (.slice A85 n85 c85); have hB13 := (hm85.blk hB12 (by decide) (by simp)).other (p := ⟨gm, 0, none⟩) hgg (.slice A85 n85 c85); have q86_0 := hB13.cell 0 rfl; have q86_1 := hB13.cell 1 rfl)
             | (go_at_call 98; (with_reducible refine (qM6 B y.time y.off _ _ _ hb86 hN86.gd f1 f2 (by have h7 := HLE.out; have h8 := HL9.out; rw [if_neg HK0.out] at h7; simp only [length_append, length_cons, length_nil] at *; omega)).mono ?_); rintro e X87 ⟨v87, rfl, hb87, hm87⟩; obtain ⟨A87, n87, c87, rfl⟩ := hb87.form3; obtain ⟨hN88, u88, z88, z87, v87, u87⟩ := hN86.put hgB (s := (Lib.decDigits (Int.toNat y.time)) ++ (32 :: (itoa y.off))) (by simpa only [append_assoc] using hb87) hm87))
            refine ⟨⟨k + 1, by omega, by go_num, ?_⟩, by simp [intOf]; omega⟩
            rw [HSN.out, if_neg HK0.out]
            simpa only [append_assoc] using hN88
          rw [take_of_length_le (by omega)] at hMk
          obtain ⟨A80, n80, c80, hG80, hb80⟩ := hMk.buf
          have u80 := hG80.cell 0 rfl
          have z80 := hG80.fz 0
          have hN80 := hMk
          go_wp2_with (refine qAc rfl fun K hK => ?_; (with_reducible refine qA9 B (.tmp 175) (.const (.string ⟨#[13, 10]⟩)) 193 9 ?_ underlying193 underlying9 qDa _ _ ⟨#[13, 10]⟩ ?_ ?_ hb80 hN80.gd.le ?_ ?_); (focus rfl); (focus rfl); (focus rfl); (focus (show (jt (L10 x) ++ ([122, 61] ++ zj x.zones)).length + 2 <= 140737488355328; have := HL9.out; simp only [length_append, length_cons, length_nil] at *; omega)); intro v81 X81 hb81 hm81; obtain ⟨A81, n81', c81, rfl⟩ := hb81.form3; refine hK _ _ ?_; obtain ⟨hN82, u82, z82, z81, v81, u81⟩ := hN80.put hgB (s := [13, 10]) hb81 hm81)
          go_meet
          case rel => (unfold L11; rw [if_neg HZ0.out]; exact hN82.line (.lz x.zones) rfl)
        as_aux_lemma =>
         have hM11 : MS B gm w3 wc (L11 x) [] := hcut
         obtain ⟨W11, hW11⟩ : ∃ z, z = wc := ⟨_, rfl⟩
         rw [<- hW11] at hM11 ⊢
         clear hW11 hcut hM10 n10 d10_15
         have n11 := hM11.nw nA hBle
         have d11_16 := (HD.out.nw n11).cell 16 rfl
         go_upto_if 181 with fail
         go_cut [] from 182 to 189 (fun wc => MS B gm w3 wc (L12 x) [])
         case first =>
          as_aux_lemma =>
           rcases M.out.key with ⟨e, hv⟩ | ⟨y2, b2, e, hv, hy⟩ <;> (injection hv with hv; subst hv)
           · go_wp2
             go_meet
             case rel => (unfold L12; rw [e]; simpa using hM11)
           obtain ⟨dy, fy⟩ := qEg hy
           have d9 := n11.cell dy
           have el : (jt (x.key.map .lk)).length = (jt [.lk y2]).length := by rw [e]; rfl
           have KY := hid (KK.out y2)
           go_wp2_with (go_at_call 86; (with_reducible refine (kv KY ⟨#[107, 61]⟩ rfl qNc hM11 n11 hBle hgB (by have h9 := HL.out; simp only [qD9, qAl, qA7, length_append, length_nil]; omega)).mono ?_); rintro e W99 ⟨rfl, hM99, hk99⟩; have n99 := hM99.nw nA hBle)
           go_meet
           case rel => (unfold L12; rw [e]; exact hM99)
         as_aux_lemma =>
          have hM12 : MS B gm w3 wc (L12 x) [] := hcut
          obtain ⟨W12, hW12⟩ : ∃ z, z = wc := ⟨_, rfl⟩
          rw [<- hW12] at hM12 ⊢
          clear hW12 hcut hM11 n11 d11_16
          have n12 := hM12.nw nA hBle
          have d12_17 := (HD.out.nw n12).cell 17 rfl
          obtain ⟨Al, nl, hvl⟩ := Ty.Sl_form M.out.atts
          subst hvl
          apply_assumption
          apply wp_seq_k
          intro Kn hKn
          go_cut [] from 190 to 202 (fun wc => MS B gm w3 wc (L13 x) [])
          case first =>
           as_aux_lemma =>
            have hmx := M.out.atts.1
            go_wp2
            go_loopw [195] (fun i wr => ∃ kk : Nat, kk <= x.atts.length /\ i = .int .i64 kk /\ MS B gm w3 wr (L12 x ++ (x.atts.take kk).map Ln.la) []) (fun i _ => x.atts.length - (intOf i).toNat)
            case atStart => exact ⟨0, Nat.zero_le _, rfl, by simpa using hM12⟩
            obtain ⟨kk, hk, rfl, hMk⟩ := hrel
            by_cases hlt : kk < x.atts.length
            · obtain ⟨b2, o, hAl, ha⟩ := Ty.Sl_at M.out.atts kk hlt
              subst hAl
              obtain ⟨cs, hrl, hx⟩ := ha kk _ (List.getElem?_eq_getElem hlt)
              obtain ⟨y2, hy⟩ : ∃ yy, yy = x.atts[kk] := ⟨_, rfl⟩
              have hym : y2 ∈ x.atts := by rw [hy]; exact getElem_mem hlt
              rw [<- hy] at hrl
              obtain ⟨rfl, hwf⟩ := hrl
              have hnw := hMk.nw nA hBle
              have e9_0 := hnw.cell (hx 0 _ rfl); have e9_1 := hnw.cell (hx 1 _ rfl)
              simp only [qBy, Ty.flat, Nat.add_zero] at e9_0 e9_1
              have k1 : (0 : Int) <= (kk : Int) := by omega
              have k2 : (kk : Int) < (x.atts.length : Int) := by omega
              have k3 : (kk : Int) <= (x.atts.length : Int) := by omega
              have hsn := qEo Ln.la hlt
              rw [<- hy] at hsn
              have hle := qEn Ln.la x.atts (kk + 1)
              rw [hsn, qAl, length_append] at hle
              have HSN2 := hid hsn
              have HLE2 := hid hle
              have KY : Hid (KL B w (.la y2) 100 (.agg #[.string y2.key, .string y2.val])) := hid (fun w1 v1 l hb hg1 _ hl => qM8 B y2 w1 v1 l hb hg1 (Nat.le_trans (Nat.add_le_add_left (by decide) _) hl))
              have hMa := hMk.alloc (.cells #[.string y2.key, .string y2.val] 199)
              have hna := hMa.nw nA hBle
              clear hx ha hy hsn hle
              go_wp2_with (go_at_call 86; (with_reducible refine (kv KY ⟨#[97, 61]⟩ rfl qLj hMa hna hBle hgB (by have h9 := HL.out; have h8 := HLE2.out; simp only [qD9, qAl, qA7, length_append, length_nil]; omega)).mono ?_); rintro e W99 ⟨rfl, hM99, hk99⟩)
              exact ⟨⟨kk + 1, by omega, by go_num, by rw [HSN2.out, <- append_assoc]; exact hM99⟩, by simp [intOf]; omega⟩
            rw [show x.atts.take kk = x.atts from take_of_length_le (by omega)] at hMk
            go_wp2
            go_meet
            case rel => exact hMk
          as_aux_lemma =>
           have hM13 : MS B gm w3 wc (L13 x) [] := hcut
           obtain ⟨W13, hW13⟩ : ∃ z, z = wc := ⟨_, rfl⟩
           rw [<- hW13] at hM13 ⊢
           clear hW13 hcut hM12 n12 d12_17
           have n13 := hM13.nw nA hBle
           have d13_18 := (HD.out.nw n13).cell 18 rfl
           obtain ⟨Al, nl, hvl⟩ := Ty.Sl_form M.out.media
           subst hvl
           apply_assumption
           apply wp_seq_k
           intro Kn hKn
           go_cut [] from 203 to 283 (fun wc => MS B gm w3 wc (L14 x) [])
           case first =>
            as_aux_lemma =>
             have hmx := M.out.media.1
             have HMX := hid hmx
             go_wp2
             go_loopw [208] (fun i wr => ∃ k : Nat, k <= x.media.length /\ i = .int .i64 k /\ MS B gm w3 wr (L13 x ++ (x.media.take k).flatMap qBn) []) (fun i _ => x.media.length - (intOf i).toNat)
             case atStart => exact ⟨0, Nat.zero_le _, rfl, by simpa using hM13⟩
             obtain ⟨k, hk, rfl, hMk⟩ := hrel
             by_cases hlt : k < x.media.length
             · obtain ⟨b, o, hAl, ha⟩ := Ty.Sl_at M.out.media k hlt
               subst hAl
               obtain ⟨cs, hrl, hx⟩ := ha k _ (List.getElem?_eq_getElem hlt)
               obtain ⟨y, hy⟩ : ∃ y, y = x.media[k] := ⟨_, rfl⟩
               have hym : y ∈ x.media := by rw [hy]; exact getElem_mem hlt
               rw [<- hy] at hrl
               obtain ⟨bm, rfl, hat⟩ := hrl
               have hnw := hMk.nw nA hBle
               have e9_0 := hnw.cell (hx 0 _ rfl)
               simp only [Ty.ptr, Ty.flat, Nat.mul_one, Nat.add_zero] at e9_0
               obtain ⟨cs2, ⟨u0, u1, u2, u3, u4, u5, u6, u7, rfl, mm⟩, hx2⟩ := hat 0 y rfl
               obtain ⟨a0, rfl⟩ := Ty.Pt_form mm.ports
               obtain ⟨A1, n1, rfl⟩ := Ty.Sl_form mm.protos
               obtain ⟨A2, n2, rfl⟩ := Ty.Sl_form mm.fmts
               obtain ⟨a3, rfl⟩ := Ty.Pt_form mm.title
               obtain ⟨a4, rfl⟩ := Ty.Pt_form mm.conn
               obtain ⟨a6, rfl⟩ := Ty.Pt_form mm.key
               have hxc : ∀ j u, [Value.string y.name, .int .i64 y.port, .pointer a0, .slice A1 y.protos.length n1, .slice A2 y.fmts.length n2, .pointer a3, .pointer a4, u5, .pointer a6, u7][j]? = some u -> w.cell? ⟨bm, j, none⟩ = some u := fun j u hu => by simpa using hx2 j u hu
               have HX := hid hxc
               have MY := hid mm
               have HOM := hid (HOK.out.med y hym)
               have k1 : (0 : Int) <= (k : Int) := by omega
               have k2 : (k : Int) < (x.media.length : Int) := by omega
               have k3 : (k : Int) <= (x.media.length : Int) := by omega
               have hsn := qEi qBn hlt
               rw [<- hy] at hsn
               have hle := qEh qBn x.media (k + 1)
               rw [hsn, qAl, length_append] at hle
               have e0 : qBn y = [.lm y] ++ (y.title.map .mi ++ (y.conn.map .mc ++ (y.bws.map .mb ++ (y.key.map .mkey ++ y.atts.map .ma)))) := rfl
               rw [e0] at hle
               simp only [qAl, length_append] at hle
               have HSN := hid hsn
               have HLE := hid hle
               have KM : Hid (KL B w (.lm y) 101 (.agg #[.string y.name, .int .i64 y.port, .pointer a0, .slice A1 y.protos.length n1, .slice A2 y.fmts.length n2])) := hid (fun w1 v1 l hb hg1 hn1 hl => into_med B y _ _ _ w w1 v1 l MY.out.ports MY.out.protos MY.out.fmts hn1 hBle hb hg1 MY.out.port HOM.out.1.1 HOM.out.1.2 hl)
               have KMI : Hid (∀ y2, KL B w (.mi y2) 90 (.string y2)) := hid (fun y2 => KI.out y2)
               have KMK : Hid (∀ y2, KL B w (.mkey y2) 99 (.string y2)) := hid (fun y2 => KK.out y2)
               have KMC : Hid (∀ c ∈ y.conn, ∀ p1, qHq.Pt w c.adrs p1 -> KL B w (.mc c) 94 (.agg #[.string c.net, .string c.addr, p1])) := hid (fun c hc p1 hp w1 v1 l hb hg1 hn hl => qM7 B c p1 w w1 v1 l hp hn hBle hb hg1 (HOM.out.2.2 c hc) (Nat.le_trans (Nat.add_le_add_left (by decide) _) hl))
               obtain ⟨W30, hW30⟩ : ∃ z, z = wr := ⟨_, rfl⟩
               rw [<- hW30] at hMk e9_0 ⊢
               clear hx ha hat hy hsn hle e0 hnw hx2 hxc mm hW30
               have hM30 := hMk
               have n30 := hM30.nw nA hBle
               have d30_0 := n30.cell (HX.out 0 _ rfl)
               have d30_1 := n30.cell (HX.out 1 _ rfl)
               have d30_2 := n30.cell (HX.out 2 _ rfl)
               have d30_3 := n30.cell (HX.out 3 _ rfl)
               have d30_4 := n30.cell (HX.out 4 _ rfl)
               clear hMk
               go_upto_if 222 with (go_at_call 86; (with_reducible refine (kv KM ⟨#[109, 61]⟩ rfl qQ9 hM30 n30 hBle hgB (by have h9 := HL.out; have h7 := HLE.out; simp only [qD9, qAl, qA7, length_append, length_nil]; omega)).mono ?_); rintro e W31 ⟨rfl, hM31, hk31⟩; have n31 := hM31.nw nA hBle; have d31_5 := n31.cell (HX.out 5 _ rfl))
               have hM31 : MS B gm w3 W31 (N1 x k y) [] := hM31
               clear KM d30_0 d30_1 d30_2 d30_3 d30_4 e9_0 hM30 n30
               go_cut [] from 223 to 230 (fun wc => MS B gm w3 wc (N2 x k y) [])
               case first =>
                as_aux_lemma =>
                 rcases MY.out.title with ⟨e, hv⟩ | ⟨y2, b2, e, hv, hy⟩ <;> (injection hv with hv; subst hv)
                 · go_wp2
                   go_meet
                   case rel => (unfold N2; rw [e]; simpa using hM31)
                 obtain ⟨dy, fy⟩ := qEg hy
                 have d9 := n31.cell dy
                 have el : (jt (y.title.map .mi)).length = (jt [.mi y2]).length := by rw [e]; rfl
                 have KY := hid (KMI.out y2)
                 go_wp2_with (go_at_call 86; (with_reducible refine (kv KY ⟨#[105, 61]⟩ rfl qM9 hM31 n31 hBle hgB (by have h9 := HL.out; have h7 := HLE.out; simp only [qD9, qAl, qA7, length_append, length_nil]; omega)).mono ?_); rintro e W99 ⟨rfl, hM99, hk99⟩; have n99 := hM99.nw nA hBle)
                 go_meet
                 case rel => (unfold N2; rw [e]; exact hM99)
               as_aux_lemma =>
                have hM32 : MS B gm w3 wc (N2 x k y) [] := hcut
                obtain ⟨W32, hW32⟩ : ∃ z, z = wc := ⟨_, rfl⟩
                rw [<- hW32] at hM32 ⊢
                clear hW32 hcut hM31 n31 d31_5
                have n32 := hM32.nw nA hBle
                have d32_6 := n32.cell (HX.out 6 _ rfl)
                go_upto_if 235 with fail
                go_cut [] from 236 to 243 (fun wc => MS B gm w3 wc (N3 x k y) [])
                case first =>
                 as_aux_lemma =>
                  rcases MY.out.conn with ⟨e, hv⟩ | ⟨y2, b2, e, hv, hy⟩ <;> (injection hv with hv; subst hv)
                  · go_wp2
                    go_meet
                    case rel => (unfold N3; rw [e]; simpa using hM32)
                  obtain ⟨cs, ⟨p1, rfl, f1, f2, hp1⟩, hc⟩ := hy 0 y2 rfl
                  have d9 : W32.cell? ⟨b2, 0, none⟩ = some (.string y2.net) := n32.cell (hc 0 _ rfl)
                  have d10 : W32.cell? ⟨b2, 1, none⟩ = some (.string y2.addr) := n32.cell (hc 1 _ rfl)
                  have d11 : W32.cell? ⟨b2, 2, none⟩ = some p1 := n32.cell (hc 2 _ rfl)
                  have el : (jt (y.conn.map .mc)).length = (jt [.mc y2]).length := by rw [e]; rfl
                  have KY := hid (KMC.out y2 (by rw [e]; exact List.mem_cons_self) p1 hp1)
                  go_wp2_with (go_at_call 86; (with_reducible refine (kv KY ⟨#[99, 61]⟩ rfl qNa hM32 n32 hBle hgB (by have h9 := HL.out; have h7 := HLE.out; simp only [qD9, qAl, qA7, length_append, length_nil]; omega)).mono ?_); rintro e W99 ⟨rfl, hM99, hk99⟩; have n99 := hM99.nw nA hBle)
                  go_meet
                  case rel => (unfold N3; rw [e]; exact hM99)
                as_aux_lemma =>
                 have hM33 : MS B gm w3 wc (N3 x k y) [] := hcut
                 obtain ⟨W33, hW33⟩ : ∃ z, z = wc := ⟨_, rfl⟩
                 rw [<- hW33] at hM33 ⊢
                 clear hW33 hcut hM32 n32 d32_6
                 have n33 := hM33.nw nA hBle
                 have d33_7 := n33.cell (HX.out 7 _ rfl)
                 obtain ⟨Al, nl, hvl⟩ := Ty.Sl_form MY.out.bws
                 subst hvl
                 apply_assumption
                 apply wp_seq_k
                 intro Kn hKn
                 go_cut [] from 244 to 256 (fun wc => MS B gm w3 wc (N4 x k y) [])
                 case first =>
                  as_aux_lemma =>
                   have hmx := MY.out.bws.1
                   go_wp2
                   go_loopw [249] (fun i wr => ∃ kk : Nat, kk <= y.bws.length /\ i = .int .i64 kk /\ MS B gm w3 wr (N3 x k y ++ (y.bws.take kk).map Ln.mb) []) (fun i _ => y.bws.length - (intOf i).toNat)
                   case atStart => exact ⟨0, Nat.zero_le _, rfl, by simpa using hM33⟩
                   obtain ⟨kk, hk, rfl, hMk⟩ := hrel
                   by_cases hlt : kk < y.bws.length
                   · obtain ⟨b2, o, hAl, ha⟩ := Ty.Sl_at MY.out.bws kk hlt
                     subst hAl
                     obtain ⟨cs, hrl, hx⟩ := ha kk _ (List.getElem?_eq_getElem hlt)
                     obtain ⟨y2, hy⟩ : ∃ yy, yy = y.bws[kk] := ⟨_, rfl⟩
                     have hym : y2 ∈ y.bws := by rw [hy]; exact getElem_mem hlt
                     rw [<- hy] at hrl
                     obtain ⟨rfl, hwf⟩ := hrl
                     have hnw := hMk.nw nA hBle
                     have e9_0 := hnw.cell (hx 0 _ rfl); have e9_1 := hnw.cell (hx 1 _ rfl); have e9_2 := hnw.cell (hx 2 _ rfl)
                     simp only [qBx, Ty.flat, Nat.add_zero] at e9_0 e9_1 e9_2
                     have k1 : (0 : Int) <= (kk : Int) := by omega
                     have k2 : (kk : Int) < (y.bws.length : Int) := by omega
                     have k3 : (kk : Int) <= (y.bws.length : Int) := by omega
                     have hsn := qEo Ln.mb hlt
                     rw [<- hy] at hsn
                     have hle := qEn Ln.mb y.bws (kk + 1)
                     rw [hsn, qAl, length_append] at hle
                     have HSN2 := hid hsn
                     have HLE2 := hid hle
                     have KY : Hid (KL B w (.mb y2) 95 (.agg #[.bool y2.x, .string y2.ty, .int .u64 y2.n])) := hid (fun w1 v1 l hb hg1 _ hl => qQ6 B y2 v1 l w1 hb hg1 hwf.2 (Nat.le_trans (Nat.add_le_add_left (by decide) _) hl))
                     have hMa := hMk.alloc (.cells #[.bool y2.x, .string y2.ty, .int .u64 y2.n] 198)
                     have hna := hMa.nw nA hBle
                     clear hx ha hy hsn hle
                     go_wp2_with (go_at_call 86; (with_reducible refine (kv KY ⟨#[98, 61]⟩ rfl qNb hMa hna hBle hgB (by have h9 := HL.out; have h8 := HLE2.out; have h7 := HLE.out; simp only [qD9, qAl, qA7, length_append, length_nil]; omega)).mono ?_); rintro e W99 ⟨rfl, hM99, hk99⟩)
                     exact ⟨⟨kk + 1, by omega, by go_num, by rw [HSN2.out, <- append_assoc]; exact hM99⟩, by simp [intOf]; omega⟩
                   rw [show y.bws.take kk = y.bws from take_of_length_le (by omega)] at hMk
                   go_wp2
                   go_meet
                   case rel => exact hMk
                 as_aux_lemma =>
                  have hM34 : MS B gm w3 wc (N4 x k y) [] := hcut
                  obtain ⟨W34, hW34⟩ : ∃ z, z = wc := ⟨_, rfl⟩
                  rw [<- hW34] at hM34 ⊢
                  clear hW34 hcut hM33 n33 d33_7
                  have n34 := hM34.nw nA hBle
                  have d34_8 := n34.cell (HX.out 8 _ rfl)
                  go_upto_if 261 with fail
                  go_cut [] from 262 to 269 (fun wc => MS B gm w3 wc (N5 x k y) [])
                  case first =>
                   as_aux_lemma =>
                    rcases MY.out.key with ⟨e, hv⟩ | ⟨y2, b2, e, hv, hy⟩ <;> (injection hv with hv; subst hv)
                    · go_wp2
                      go_meet
                      case rel => (unfold N5; rw [e]; simpa using hM34)
                    obtain ⟨dy, fy⟩ := qEg hy
                    have d9 := n34.cell dy
                    have el : (jt (y.key.map .mkey)).length = (jt [.mkey y2]).length := by rw [e]; rfl
                    have KY := hid (KMK.out y2)
                    go_wp2_with (go_at_call 86; (with_reducible refine (kv KY ⟨#[107, 61]⟩ rfl qNc hM34 n34 hBle hgB (by have h9 := HL.out; have h7 := HLE.out; simp only [qD9, qAl, qA7, length_append, length_nil]; omega)).mono ?_); rintro e W99 ⟨rfl, hM99, hk99⟩; have n99 := hM99.nw nA hBle)
                    go_meet
                    case rel => (unfold N5; rw [e]; exact hM99)
                  as_aux_lemma =>
                   have hM35 : MS B gm w3 wc (N5 x k y) [] := hcut
                   obtain ⟨W35, hW35⟩ : ∃ z, z = wc := ⟨_, rfl⟩
                   rw [<- hW35] at hM35 ⊢
                   clear hW35 hcut hM34 n34 d34_8
                   have n35 := hM35.nw nA hBle
                   have d35_9 := n35.cell (HX.out 9 _ rfl)
                   obtain ⟨Al, nl, hvl⟩ := Ty.Sl_form MY.out.atts
                   subst hvl
                   have hmx := MY.out.atts.1
                   go_wp2
                   go_loopw [275] (fun i wr => ∃ kk : Nat, kk <= y.atts.length /\ i = .int .i64 kk /\ MS B gm w3 wr (N5 x k y ++ (y.atts.take kk).map Ln.ma) []) (fun i _ => y.atts.length - (intOf i).toNat)
                   case atStart => exact ⟨0, Nat.zero_le _, rfl, by simpa using hM35⟩
                   obtain ⟨kk, hk, rfl, hMk⟩ := hrel
                   by_cases hlt : kk < y.atts.length
                   · obtain ⟨b2, o, hAl, ha⟩ := Ty.Sl_at MY.out.atts kk hlt
                     subst hAl
                     obtain ⟨cs, hrl, hx⟩ := ha kk _ (List.getElem?_eq_getElem hlt)
                     obtain ⟨y2, hy⟩ : ∃ yy, yy = y.atts[kk] := ⟨_, rfl⟩
                     have hym : y2 ∈ y.atts := by rw [hy]; exact getElem_mem hlt
                     rw [<- hy] at hrl
                     obtain ⟨rfl, hwf⟩ := hrl
                     have hnw := hMk.nw nA hBle
                     have e9_0 := hnw.cell (hx 0 _ rfl); have e9_1 := hnw.cell (hx 1 _ rfl)
                     simp only [qBy, Ty.flat, Nat.add_zero] at e9_0 e9_1
                     have k1 : (0 : Int) <= (kk : Int) := by omega
                     have k2 : (kk : Int) < (y.atts.length : Int) := by omega
                     have k3 : (kk : Int) <= (y.atts.length : Int) := by omega
                     have hsn := qEo Ln.ma hlt
                     rw [<- hy] at hsn
                     have hle := qEn Ln.ma y.atts (kk + 1)
                     rw [hsn, qAl, length_append] at hle
                     have HSN2 := hid hsn
                     have HLE2 := hid hle
                     have KY : Hid (KL B w (.ma y2) 100 (.agg #[.string y2.key, .string y2.val])) := hid (fun w1 v1 l hb hg1 _ hl => qM8 B y2 w1 v1 l hb hg1 (Nat.le_trans (Nat.add_le_add_left (by decide) _) hl))
                     have hMa := hMk.alloc (.cells #[.string y2.key, .string y2.val] 199)
                     have hna := hMa.nw nA hBle
                     clear hx ha hy hsn hle
                     go_wp2_with (go_at_call 86; (with_reducible refine (kv KY ⟨#[97, 61]⟩ rfl qLj hMa hna hBle hgB (by have h9 := HL.out; have h8 := HLE2.out; have h7 := HLE.out; simp only [qD9, qAl, qA7, length_append, length_nil]; omega)).mono ?_); rintro e W99 ⟨rfl, hM99, hk99⟩)
                     exact ⟨⟨kk + 1, by omega, by go_num, by rw [HSN2.out, <- append_assoc]; exact hM99⟩, by simp [intOf]; omega⟩
                   rw [show y.atts.take kk = y.atts from take_of_length_le (by omega)] at hMk
                   go_wp2
                   exact ⟨⟨k + 1, by omega, by go_num, by rw [HSN.out, <- append_assoc]; simpa only [N1, N2, N3, N4, N5, qBn, append_assoc, List.cons_append, nil_append] using hMk⟩, by simp [intOf]; omega⟩
             rw [take_of_length_le (by omega)] at hMk
             go_wp2
             go_meet
             case rel => exact hMk
           as_aux_lemma =>
            have hM14 : MS B gm w3 wc (L14 x) [] := hcut
            obtain ⟨W14, hW14⟩ : ∃ z, z = wc := ⟨_, rfl⟩
            rw [<- hW14] at hM14 ⊢
            clear hW14 hcut hM13 n13 d13_18
            have n14 := hM14.nw nA hBle
            obtain ⟨Az, nz, cz, hGz, hbz⟩ := hM14.buf
            have uz := hGz.cell 0 rfl
            have e1 : jt (L14 x) ++ [] = jt (lns x) := by
             rw [append_nil, HLNS.out]
             rfl
            rw [e1] at hbz
            go_wp2
            go_ret2
            exact ⟨_, rfl, by rw [<- HBE.out]; exact hbz, n14⟩
end Go.Proofs.YtcepdjlknalmnaaGreatDoor

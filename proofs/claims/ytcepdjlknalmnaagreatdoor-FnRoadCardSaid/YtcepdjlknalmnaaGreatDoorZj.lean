/- Laws of this claim. -/
import Derived.Test.YtcepdjlknalmnaaGreatDoorLineD
import Derived.Test.YtcepdjlknalmnaaGreatDoorSpecF
set_option linter.unusedSimpArgs false
set_option linter.unusedVariables false
namespace Go.Proofs.YtcepdjlknalmnaaGreatDoor
open List (map_cons flatMap_cons)
open Lib (decDigits itoa)
open Go.RowKit
inductive Ln where
 | lv | lo (x : Org) | ls (x : ByteArray) | li (x : ByteArray) | lu (x : ByteArray) | le (x : ByteArray) | lp (x : ByteArray)
 | lc (x : Con) | lb (x : Bwd) | lt (x : Tim) | lr (x : Rep) | lz (x : List Zon) | lk (x : ByteArray) | la (x : Att)
 | lm (x : Med) | mi (x : ByteArray) | mc (x : Con) | mb (x : Bwd) | mkey (x : ByteArray) | ma (x : Att)
def qD7 (c : Con) : List UInt8 := bs c.net ++ (32 :: (bs c.addr ++ c.adrs.flatMap qKa))
def qF8 (b : Bwd) : List UInt8 := (if b.x then [88, 45] else []) ++ (bs b.ty ++ (58 :: (decDigits (Int.toNat b.n))))
def qC1 (a : Att) : List UInt8 := bs a.key ++ (if a.val.size = 0 then [] else 58 :: bs a.val)
namespace Ln
def key : Ln -> UInt8
 | lv => 118 | lo _ => 111 | ls _ => 115 | li _ => 105 | lu _ => 117 | le _ => 101 | lp _ => 112
 | lc _ => 99 | lb _ => 98 | lt _ => 116 | lr _ => 114 | lz _ => 122 | lk _ => 107 | la _ => 97
 | lm _ => 109 | mi _ => 105 | mc _ => 99 | mb _ => 98 | mkey _ => 107 | ma _ => 97
def body : Ln -> List UInt8
 | lv => [48]
 | lo o => bs o.user ++ (32 :: ((decDigits (Int.toNat o.id)) ++ (32 :: ((decDigits (Int.toNat o.ver)) ++ (32 :: (bs o.net ++ (32 :: (bs o.addr ++ (32 :: bs o.adr)))))))))
 | ls x => bs x | li x => bs x | lu x => bs x | le x => bs x | lp x => bs x
 | lc c => qD7 c
 | lb b => qF8 b
 | lt t => (decDigits (Int.toNat t.start)) ++ (32 :: (decDigits (Int.toNat t.stop)))
 | lr r => (itoa r.ivl) ++ (32 :: ((itoa r.dur) ++ qBt r.offs))
 | lz zs => qAk [32] ((qBq zs).map mk)
 | lk x => bs x
 | la a => qC1 a
 | lm m => bs m.name ++ (32 :: (qCo m ++ (32 :: (qAk [47] m.protos ++ (32 :: qAk [32] m.fmts)))))
 | mi x => bs x | mc c => qD7 c | mb b => qF8 b | mkey x => bs x | ma a => qC1 a
def text (l : Ln) : List UInt8 := l.key :: 61 :: l.body
def from_ : Ln -> List Nat
 | lv => [1] | lo _ => [2] | ls _ => [3] | li _ => [4] | lu _ => [4, 7] | le _ => [4, 7, 10] | lp _ => [4, 6, 7, 10]
 | lc _ => [4, 6, 7, 8, 10] | lb _ => [4, 5, 6, 7, 8, 10] | lt _ => [4, 5, 6, 7, 8, 9, 10] | lr _ => [9] | lz _ => [9] | lk _ => [9, 13] | la _ => [9, 11, 13]
 | lm _ => [9, 11, 12, 13, 14, 15, 16] | mi _ => [12, 14, 15, 16] | mc _ => [12, 14, 15, 16] | mb _ => [12, 14, 15, 16] | mkey _ => [12, 14, 15, 16] | ma _ => [12, 14, 15, 16]
def dst : Ln -> Nat
 | lv => 2 | lo _ => 3 | ls _ => 4 | li _ => 7 | lu _ => 10 | le _ => 6 | lp _ => 8 | lc _ => 5 | lb _ => 5 | lt _ => 9 | lr _ => 9 | lz _ => 13 | lk _ => 11 | la _ => 11
 | lm _ => 12 | mi _ => 16 | mc _ => 15 | mb _ => 15 | mkey _ => 14 | ma _ => 14
end Ln
def qBn (m : Med) : List Ln := .lm m :: (m.title.map .mi ++ (m.conn.map .mc ++ (m.bws.map .mb ++ (m.key.map .mkey ++ m.atts.map .ma))))
def qBl (t : Tim) : List Ln := .lt t :: t.reps.map .lr
def lns (x : Ssn) : List Ln :=
 .lv :: .lo x.org :: .ls x.name :: (x.info.map .li ++ (x.uri.map .lu ++ (x.email.map .le ++ (x.phone.map .lp ++ (x.conn.map .lc ++ (x.bws.map .lb ++ (x.times.flatMap qBl ++
  ((if x.zones.length = 0 then [] else [.lz x.zones]) ++ (x.key.map .lk ++ (x.atts.map .la ++ x.media.flatMap qBn))))))))))
theorem qMj (c : Con) : qI9 c = 99 :: 61 :: qD7 c := by simp [qI9, qKg, qD7]
theorem qOf (b : Bwd) : bwL b = 98 :: 61 :: qF8 b := by unfold bwL qF8; cases b.x <;> simp
theorem qMk (a : Att) : qHm a = 97 :: 61 :: qC1 a := by simp [qHm, qC1]
theorem qKh (c : UInt8) (xs : List ByteArray) : qCa ⟨#[c]⟩ xs = xs.map (fun x => c :: 61 :: bs x) := by
 unfold qCa
 refine List.map_congr_left (fun x _ => ?_)
 simp [bs]
theorem qCb {α : Type} (f : α -> Ln) (g : α -> List UInt8) (h : ∀ x, (f x).text = g x) (xs : List α) : (xs.map f).map Ln.text = xs.map g := by
 rw [List.map_map]
 exact List.map_congr_left (fun x _ => h x)
theorem tim_text (t : Tim) : (qBl t).map Ln.text = timL t :: t.reps.map qJr := by
 unfold qBl
 rw [map_cons, qCb Ln.lr qJr (fun r => by simp [Ln.text, Ln.key, Ln.body, qJr])]
 simp [Ln.text, Ln.key, Ln.body, timL]
theorem med_text (m : Med) : (qBn m).map Ln.text = qDr m := by
 unfold qBn qDr qDi
 simp only [map_cons, List.map_append, qKh]
 rw [qCb Ln.mi (fun x => 105 :: 61 :: bs x) (fun x => rfl), qCb Ln.mc qI9 (fun x => (qMj x).symm), qCb Ln.mb bwL (fun x => (qOf x).symm), qCb Ln.mkey (fun x => 107 :: 61 :: bs x) (fun x => rfl), qCb Ln.ma qHm (fun x => (qMk x).symm)]
 simp [Ln.text, Ln.key, Ln.body, medL]
theorem qGv (x : Ssn) (h : x.ver = 0) : (lns x).map Ln.text = qCw x := by
 have ht : (x.times.flatMap qBl).map Ln.text = qDx x.times := by
  unfold qDx
  rw [List.map_flatMap]
  congr 1
  funext t
  exact tim_text t
 have hm : (x.media.flatMap qBn).map Ln.text = x.media.flatMap qDr := by
  rw [List.map_flatMap]
  congr 1
  funext m
  exact med_text m
 have hz : (if x.zones.length = 0 then [] else [Ln.lz x.zones]).map Ln.text = qD4 x.zones := by
  unfold qD4
  split
  · rfl
  simp [Ln.text, Ln.key, Ln.body, qJa]
 unfold lns qCw qMi qHp qDi
 simp only [map_cons, List.map_append, qKh, ht, hm, hz]
 rw [qCb Ln.li (fun x => 105 :: 61 :: bs x) (fun x => rfl), qCb Ln.lu (fun x => 117 :: 61 :: bs x) (fun x => rfl), qCb Ln.le (fun x => 101 :: 61 :: bs x) (fun x => rfl), qCb Ln.lp (fun x => 112 :: 61 :: bs x) (fun x => rfl), qCb Ln.lc qI9 (fun x => (qMj x).symm), qCb Ln.lb bwL (fun x => (qOf x).symm), qCb Ln.lk (fun x => 107 :: 61 :: bs x) (fun x => rfl), qCb Ln.la qHm (fun x => (qMk x).symm)]
 have hv : (Ln.lv).text = verL x := by
  unfold verL
  rw [h]
  decide +kernel
 rw [hv]
 simp [Ln.text, Ln.key, Ln.body, orgL, qOe]
structure Pst where
 org : Org
 name : ByteArray
 info : List ByteArray
 uri : List ByteArray
 email : List ByteArray
 phone : List ByteArray
 conn : List Con
 bws : List Bwd
 td : List Tim
 tc : Option Tim
 zones : List Zon
 key : List ByteArray
 atts : List Att
 md : List Med
 mc : Option Med
 ma : List Att
def qBf (c : Con) : Con := match c.adrs with
 | [a] => ⟨c.net, c.addr, [⟨mk (bs a.addr ++ qAx (a.ttl ++ a.rng)), [], []⟩]⟩
 | _ => c
def qNp (m : Med) : Med := ⟨m.name, m.port, m.ports, m.protos, m.fmts, [], [], [], [], []⟩
def strE : ByteArray := ⟨#[]⟩
def orgE : Org := ⟨strE, 0, 0, strE, strE, strE⟩
namespace Pst
def zero : Pst := ⟨orgE, strE, [], [], [], [], [], [], [], none, [], [], [], [], none, []⟩
def app (p : Pst) : Ln -> Pst
 | .lv => p
 | .lo x => { p with org := x }
 | .ls x => { p with name := x }
 | .li x => { p with info := [x] }
 | .lu x => { p with uri := [x] }
 | .le x => { p with email := [x] }
 | .lp x => { p with phone := [x] }
 | .lc x => { p with conn := [qBf x] }
 | .lb x => { p with bws := p.bws ++ [x] }
 | .lt t => { p with td := p.td ++ p.tc.toList, tc := some ⟨t.start, t.stop, []⟩ }
 | .lr r => { p with tc := p.tc.map (fun t => ⟨t.start, t.stop, t.reps ++ [r]⟩) }
 | .lz zs => { p with zones := p.zones ++ zs }
 | .lk x => { p with key := [x] }
 | .la a => { p with atts := p.atts ++ [a] }
 | .lm m => match p.mc with
  | none => { p with mc := some (qNp m) }
  | some y => { p with md := p.md ++ [{ y with atts := p.ma }], mc := some (qNp m), ma := [] }
 | .mi x => { p with mc := p.mc.map (fun y => { y with title := [x] }) }
 | .mc x => { p with mc := p.mc.map (fun y => { y with conn := [qBf x] }) }
 | .mb x => { p with mc := p.mc.map (fun y => { y with bws := y.bws ++ [x] }) }
 | .mkey x => { p with mc := p.mc.map (fun y => { y with key := [x] }) }
 | .ma a => { p with ma := p.ma ++ [a] }
def apps (p : Pst) (l : List Ln) : Pst := l.foldl app p
def fin (p : Pst) : Ssn := ⟨0, p.org, p.name, p.info, p.uri, p.email, p.phone, p.conn, p.bws, p.td ++ p.tc.toList, p.zones, p.key, p.atts, p.md ++ (p.mc.map (fun y => { y with atts := p.ma })).toList⟩
theorem apps_append (p : Pst) (a b : List Ln) : p.apps (a ++ b) = (p.apps a).apps b := List.foldl_append
theorem apps_cons (p : Pst) (l : Ln) (a : List Ln) : p.apps (l :: a) = (p.app l).apps a := rfl
theorem apps_info (p : Pst) (xs : List ByteArray) (h : xs.length <= 1) (h0 : p.info = []) : p.apps (xs.map .li) = { p with info := xs } := by
 match xs, h with
 | [], _ => cases p; simp_all [apps]
 | [x], _ => rfl
theorem apps_uri (p : Pst) (xs : List ByteArray) (h : xs.length <= 1) (h0 : p.uri = []) : p.apps (xs.map .lu) = { p with uri := xs } := by
 match xs, h with
 | [], _ => cases p; simp_all [apps]
 | [x], _ => rfl
theorem apps_email (p : Pst) (xs : List ByteArray) (h : xs.length <= 1) (h0 : p.email = []) : p.apps (xs.map .le) = { p with email := xs } := by
 match xs, h with
 | [], _ => cases p; simp_all [apps]
 | [x], _ => rfl
theorem apps_phone (p : Pst) (xs : List ByteArray) (h : xs.length <= 1) (h0 : p.phone = []) : p.apps (xs.map .lp) = { p with phone := xs } := by
 match xs, h with
 | [], _ => cases p; simp_all [apps]
 | [x], _ => rfl
theorem apps_key (p : Pst) (xs : List ByteArray) (h : xs.length <= 1) (h0 : p.key = []) : p.apps (xs.map .lk) = { p with key := xs } := by
 match xs, h with
 | [], _ => cases p; simp_all [apps]
 | [x], _ => rfl
theorem apps_conn (p : Pst) (xs : List Con) (h : xs.length <= 1) (h0 : p.conn = []) : p.apps (xs.map .lc) = { p with conn := xs.map qBf } := by
 match xs, h with
 | [], _ => cases p; simp_all [apps]
 | [x], _ => rfl
theorem apps_bws (xs : List Bwd) : ∀ p : Pst, p.apps (xs.map .lb) = { p with bws := p.bws ++ xs } := by
 induction xs with
 | nil => intro p; cases p; simp [apps]
 | cons x xs ih => intro p; rw [map_cons, apps_cons, ih]; simp [app]
theorem apps_atts (xs : List Att) : ∀ p : Pst, p.apps (xs.map .la) = { p with atts := p.atts ++ xs } := by
 induction xs with
 | nil => intro p; cases p; simp [apps]
 | cons x xs ih => intro p; rw [map_cons, apps_cons, ih]; simp [app]
theorem apps_reps (xs : List Rep) : ∀ (p : Pst) (t : Tim), p.tc = some t -> p.apps (xs.map .lr) = { p with tc := some ⟨t.start, t.stop, t.reps ++ xs⟩ } := by
 induction xs with
 | nil => intro p t h; cases p; simp_all [apps]
 | cons x xs ih => intro p t h; rw [map_cons, apps_cons, ih _ ⟨t.start, t.stop, t.reps ++ [x]⟩ (by simp [app, h])]; simp [app]
theorem apps_tim (p : Pst) (t : Tim) : p.apps (qBl t) = { p with td := p.td ++ p.tc.toList, tc := some t } := by
 unfold qBl
 rw [apps_cons, apps_reps _ _ ⟨t.start, t.stop, []⟩ rfl]
 rfl
theorem apps_times (xs : List Tim) : ∀ p : Pst, ∃ a b, p.apps (xs.flatMap qBl) = { p with td := a, tc := b } /\ a ++ b.toList = p.td ++ p.tc.toList ++ xs := by
 induction xs with
 | nil => intro p; exact ⟨p.td, p.tc, rfl, by simp⟩
 | cons x xs ih =>
  intro p
  rw [flatMap_cons, apps_append, apps_tim]
  obtain ⟨a, b, h1, h2⟩ := ih { p with td := p.td ++ p.tc.toList, tc := some x }
  exact ⟨a, b, h1, by rw [h2]; simp⟩
theorem apps_title (p : Pst) (y : Med) (xs : List ByteArray) (h : xs.length <= 1) (hp : p.mc = some y) (h0 : y.title = []) : p.apps (xs.map .mi) = { p with mc := some { y with title := xs } } := by
 match xs, h with
 | [], _ => cases p; cases y; simp_all [apps]
 | [x], _ => simp [apps, app, hp]
theorem apps_mconn (p : Pst) (y : Med) (xs : List Con) (h : xs.length <= 1) (hp : p.mc = some y) (h0 : y.conn = []) : p.apps (xs.map .mc) = { p with mc := some { y with conn := xs.map qBf } } := by
 match xs, h with
 | [], _ => cases p; cases y; simp_all [apps]
 | [x], _ => simp [apps, app, hp]
theorem apps_mkey (p : Pst) (y : Med) (xs : List ByteArray) (h : xs.length <= 1) (hp : p.mc = some y) (h0 : y.key = []) : p.apps (xs.map .mkey) = { p with mc := some { y with key := xs } } := by
 match xs, h with
 | [], _ => cases p; cases y; simp_all [apps]
 | [x], _ => simp [apps, app, hp]
theorem apps_mbws (xs : List Bwd) : ∀ (p : Pst) (y : Med), p.mc = some y -> p.apps (xs.map .mb) = { p with mc := some { y with bws := y.bws ++ xs } } := by
 induction xs with
 | nil => intro p y h; cases p; cases y; simp_all [apps]
 | cons x xs ih => intro p y h; rw [map_cons, apps_cons, ih _ { y with bws := y.bws ++ [x] } (by simp [app, h])]; simp [app]
theorem apps_matts (xs : List Att) : ∀ p : Pst, p.apps (xs.map .ma) = { p with ma := p.ma ++ xs } := by
 induction xs with
 | nil => intro p; cases p; simp [apps]
 | cons x xs ih => intro p; rw [map_cons, apps_cons, ih]; simp [app]
def flatMed (m : Med) : Med := { m with conn := m.conn.map qBf }
def MedOne (m : Med) : Prop := m.title.length <= 1 /\ m.conn.length <= 1 /\ m.key.length <= 1
theorem apps_med (p : Pst) (m : Med) (h : MedOne m) (hm : p.mc = none -> p.ma = []) : p.apps (qBn m) = { p with md := p.md ++ (p.mc.map (fun y => { y with atts := p.ma })).toList, mc := some { flatMed m with atts := [] }, ma := m.atts } := by
 unfold qBn
 rw [apps_cons, apps_append, apps_append, apps_append, apps_append]
 have h0 : ∃ md, p.app (.lm m) = { p with md := md, mc := some (qNp m), ma := [] } /\ md = p.md ++ (p.mc.map (fun y => { y with atts := p.ma })).toList := by
  unfold app
  cases hc : p.mc with
  | none => exact ⟨p.md, by rw [<- hm hc], by simp⟩
  | some y => exact ⟨_, rfl, rfl⟩
 obtain ⟨md, h1, h2⟩ := h0
 rw [h1, apps_title _ (qNp m) _ h.1 rfl rfl, apps_mconn _ _ _ h.2.1 rfl rfl, apps_mbws _ _ _ rfl, apps_mkey _ _ _ h.2.2 rfl rfl, apps_matts, h2]
 simp [qNp, flatMed]
theorem apps_media (xs : List Med) : ∀ p : Pst, (∀ m ∈ xs, MedOne m) -> (p.mc = none -> p.ma = []) -> ∃ a b c, p.apps (xs.flatMap qBn) = { p with md := a, mc := b, ma := c } /\ a ++ (b.map (fun y => { y with atts := c })).toList = p.md ++ (p.mc.map (fun y => { y with atts := p.ma })).toList ++ xs.map flatMed := by
 induction xs with
 | nil => intro p _ _; exact ⟨p.md, p.mc, p.ma, rfl, by simp⟩
 | cons x xs ih =>
  intro p h hm
  rw [flatMap_cons, apps_append, apps_med p x (h x List.mem_cons_self) hm]
  obtain ⟨a, b, c, h1, h2⟩ := ih { p with md := p.md ++ (p.mc.map (fun y => { y with atts := p.ma })).toList, mc := some { flatMed x with atts := [] }, ma := x.atts } (fun m hm => h m (List.mem_cons_of_mem _ hm)) (fun e => by simp at e)
  exact ⟨a, b, c, h1, by rw [h2]; simp [flatMed]⟩
end Pst
def qE7 (x : Ssn) : Ssn := { x with ver := 0, conn := x.conn.map qBf, media := x.media.map Pst.flatMed }
structure SsnOne (x : Ssn) : Prop where
 info : x.info.length <= 1
 uri : x.uri.length <= 1
 email : x.email.length <= 1
 phone : x.phone.length <= 1
 conn : x.conn.length <= 1
 key : x.key.length <= 1
 media : ∀ m ∈ x.media, Pst.MedOne m
theorem qMl (x : Ssn) (h : SsnOne x) : (Pst.zero.apps (lns x)).fin = qE7 x := by
 have e0 : ((Pst.zero.app .lv).app (.lo x.org)).app (.ls x.name) = ⟨x.org, x.name, [], [], [], [], [], [], [], none, [], [], [], [], none, []⟩ := rfl
 have e1 : Pst.apps ⟨x.org, x.name, [], [], [], [], [], [], [], none, [], [], [], [], none, []⟩ (x.info.map .li) = ⟨x.org, x.name, x.info, [], [], [], [], [], [], none, [], [], [], [], none, []⟩ := Pst.apps_info _ _ h.info rfl
 have e2 : Pst.apps ⟨x.org, x.name, x.info, [], [], [], [], [], [], none, [], [], [], [], none, []⟩ (x.uri.map .lu) = ⟨x.org, x.name, x.info, x.uri, [], [], [], [], [], none, [], [], [], [], none, []⟩ := Pst.apps_uri _ _ h.uri rfl
 have e3 : Pst.apps ⟨x.org, x.name, x.info, x.uri, [], [], [], [], [], none, [], [], [], [], none, []⟩ (x.email.map .le) = ⟨x.org, x.name, x.info, x.uri, x.email, [], [], [], [], none, [], [], [], [], none, []⟩ := Pst.apps_email _ _ h.email rfl
 have e4 : Pst.apps ⟨x.org, x.name, x.info, x.uri, x.email, [], [], [], [], none, [], [], [], [], none, []⟩ (x.phone.map .lp) = ⟨x.org, x.name, x.info, x.uri, x.email, x.phone, [], [], [], none, [], [], [], [], none, []⟩ := Pst.apps_phone _ _ h.phone rfl
 have e5 : Pst.apps ⟨x.org, x.name, x.info, x.uri, x.email, x.phone, [], [], [], none, [], [], [], [], none, []⟩ (x.conn.map .lc) = ⟨x.org, x.name, x.info, x.uri, x.email, x.phone, x.conn.map qBf, [], [], none, [], [], [], [], none, []⟩ := Pst.apps_conn _ _ h.conn rfl
 have e6 : Pst.apps ⟨x.org, x.name, x.info, x.uri, x.email, x.phone, x.conn.map qBf, [], [], none, [], [], [], [], none, []⟩ (x.bws.map .lb) = ⟨x.org, x.name, x.info, x.uri, x.email, x.phone, x.conn.map qBf, x.bws, [], none, [], [], [], [], none, []⟩ := Pst.apps_bws _ _
 obtain ⟨a, b, h1, h2⟩ := Pst.apps_times x.times ⟨x.org, x.name, x.info, x.uri, x.email, x.phone, x.conn.map qBf, x.bws, [], none, [], [], [], [], none, []⟩
 have e7 : Pst.apps ⟨x.org, x.name, x.info, x.uri, x.email, x.phone, x.conn.map qBf, x.bws, [], none, [], [], [], [], none, []⟩ (x.times.flatMap qBl) = ⟨x.org, x.name, x.info, x.uri, x.email, x.phone, x.conn.map qBf, x.bws, a, b, [], [], [], [], none, []⟩ := h1
 have e8 : Pst.apps ⟨x.org, x.name, x.info, x.uri, x.email, x.phone, x.conn.map qBf, x.bws, a, b, [], [], [], [], none, []⟩ (if x.zones.length = 0 then [] else [Ln.lz x.zones]) = ⟨x.org, x.name, x.info, x.uri, x.email, x.phone, x.conn.map qBf, x.bws, a, b, x.zones, [], [], [], none, []⟩ := by
  split
  · rename_i h0
    rw [List.eq_nil_of_length_eq_zero h0]; rfl
  rfl
 have e9 : Pst.apps ⟨x.org, x.name, x.info, x.uri, x.email, x.phone, x.conn.map qBf, x.bws, a, b, x.zones, [], [], [], none, []⟩ (x.key.map .lk) = ⟨x.org, x.name, x.info, x.uri, x.email, x.phone, x.conn.map qBf, x.bws, a, b, x.zones, x.key, [], [], none, []⟩ := Pst.apps_key _ _ h.key rfl
 have e10 : Pst.apps ⟨x.org, x.name, x.info, x.uri, x.email, x.phone, x.conn.map qBf, x.bws, a, b, x.zones, x.key, [], [], none, []⟩ (x.atts.map .la) = ⟨x.org, x.name, x.info, x.uri, x.email, x.phone, x.conn.map qBf, x.bws, a, b, x.zones, x.key, x.atts, [], none, []⟩ := Pst.apps_atts _ _
 obtain ⟨a', b', c', h3, h4⟩ := Pst.apps_media x.media ⟨x.org, x.name, x.info, x.uri, x.email, x.phone, x.conn.map qBf, x.bws, a, b, x.zones, x.key, x.atts, [], none, []⟩ h.media (fun _ => rfl)
 have e11 : Pst.apps ⟨x.org, x.name, x.info, x.uri, x.email, x.phone, x.conn.map qBf, x.bws, a, b, x.zones, x.key, x.atts, [], none, []⟩ (x.media.flatMap qBn) = ⟨x.org, x.name, x.info, x.uri, x.email, x.phone, x.conn.map qBf, x.bws, a, b, x.zones, x.key, x.atts, a', b', c'⟩ := h3
 unfold lns
 rw [Pst.apps_cons, Pst.apps_cons, Pst.apps_cons, e0, Pst.apps_append, e1, Pst.apps_append, e2, Pst.apps_append, e3, Pst.apps_append, e4, Pst.apps_append, e5, Pst.apps_append, e6, Pst.apps_append, e7, Pst.apps_append, e8, Pst.apps_append, e9, Pst.apps_append, e10, e11]
 have h2' : a ++ b.toList = x.times := by simpa using h2
 have h4' : a' ++ (b'.map (fun y => { y with atts := c' })).toList = x.media.map Pst.flatMed := by simpa using h4
 unfold Pst.fin qE7
 rw [h2', h4']
def path : Nat -> List Ln -> Prop
 | _, [] => True
 | s, l :: ls => s ∈ l.from_ /\ path l.dst ls
def qEr : Nat -> List Ln -> Nat
 | s, [] => s
 | _, l :: ls => qEr l.dst ls
theorem qA8 {a b : List Ln} : ∀ {s : Nat}, path s a -> path (qEr s a) b -> path s (a ++ b) := by
 induction a with
 | nil => intro s _ h; exact h
 | cons l a ih => intro s h k; exact ⟨h.1, ih h.2 k⟩
theorem qCx {a b : List Ln} : ∀ {s : Nat}, qEr s (a ++ b) = qEr (qEr s a) b := by
 induction a with
 | nil => intro s; rfl
 | cons l a ih => intro s; exact ih
theorem qDz {α : Type} {f : α -> Ln} {xs : List α} {s : Nat} (S S' : List Nat) (hs : s ∈ S) (h : xs.length <= 1) (hf : ∀ x, ∀ k ∈ S, k ∈ (f x).from_) (hd : ∀ x, (f x).dst ∈ S') (hS : ∀ k ∈ S, k ∈ S') : path s (xs.map f) /\ qEr s (xs.map f) ∈ S' := by
 match xs, h with
 | [], _ => exact ⟨trivial, hS s hs⟩
 | [x], _ => exact ⟨⟨hf x s hs, trivial⟩, hd x⟩
theorem qFr {α : Type} {f : α -> Ln} (S : List Nat) (hf : ∀ x, ∀ k ∈ S, k ∈ (f x).from_) (hd : ∀ x, (f x).dst ∈ S) {xs : List α} : ∀ {s : Nat}, s ∈ S -> path s (xs.map f) /\ qEr s (xs.map f) ∈ S := by
 induction xs with
 | nil => intro s hs; exact ⟨trivial, hs⟩
 | cons x xs ih => intro s hs; exact ⟨⟨hf x s hs, (ih (hd x)).1⟩, (ih (hd x)).2⟩
theorem path_tim (t : Tim) {s : Nat} (h : s ∈ [4, 5, 6, 7, 8, 9, 10]) : path s (qBl t) /\ qEr s (qBl t) ∈ [9] := by
 have := qFr (f := Ln.lr) [9] (fun x k hk => hk) (fun x => by simp [Ln.dst]) (xs := t.reps) (s := 9) (by simp)
 exact ⟨⟨h, this.1⟩, this.2⟩
theorem qNq (xs : List Tim) : ∀ {s : Nat}, s ∈ [4, 5, 6, 7, 8, 9, 10] -> path s (xs.flatMap qBl) /\ qEr s (xs.flatMap qBl) ∈ [4, 5, 6, 7, 8, 9, 10] /\ (0 < xs.length -> qEr s (xs.flatMap qBl) ∈ [9]) := by
 induction xs with
 | nil => intro s h; exact ⟨trivial, h, fun e => by simp at e⟩
 | cons t xs ih =>
  intro s h
  obtain ⟨h1, h2⟩ := path_tim t h
  obtain ⟨k1, k2, k3⟩ := ih (s := qEr s (qBl t)) (by simp at h2; rw [h2]; simp)
  rw [flatMap_cons]
  refine ⟨qA8 h1 k1, by rw [qCx]; exact k2, fun _ => ?_⟩
  rw [qCx]
  rcases Nat.eq_zero_or_pos xs.length with h0 | h0
  · rw [List.eq_nil_of_length_eq_zero h0]; exact h2
  exact k3 h0
theorem path_med (m : Med) (h : Pst.MedOne m) {s : Nat} (hs : s ∈ [9, 11, 12, 13, 14, 15, 16]) : path s (qBn m) /\ qEr s (qBn m) ∈ [9, 11, 12, 13, 14, 15, 16] := by
 unfold qBn
 obtain ⟨a1, a2⟩ := qDz (f := Ln.mi) (xs := m.title) (s := 12) [12, 14, 15, 16] [12, 14, 15, 16] (by simp) h.1 (fun x k hk => hk) (fun x => by simp [Ln.dst]) (fun k hk => hk)
 obtain ⟨b1, b2⟩ := qDz (f := Ln.mc) (xs := m.conn) [12, 14, 15, 16] [12, 14, 15, 16] a2 h.2.1 (fun x k hk => hk) (fun x => by simp [Ln.dst]) (fun k hk => hk)
 obtain ⟨c1, c2⟩ := qFr (f := Ln.mb) [12, 14, 15, 16] (fun x k hk => hk) (fun x => by simp [Ln.dst]) (xs := m.bws) b2
 obtain ⟨d1, d2⟩ := qDz (f := Ln.mkey) (xs := m.key) [12, 14, 15, 16] [12, 14, 15, 16] c2 h.2.2 (fun x k hk => hk) (fun x => by simp [Ln.dst]) (fun k hk => hk)
 obtain ⟨e1, e2⟩ := qFr (f := Ln.ma) [12, 14, 15, 16] (fun x k hk => hk) (fun x => by simp [Ln.dst]) (xs := m.atts) d2
 refine ⟨⟨hs, qA8 a1 (qA8 b1 (qA8 c1 (qA8 d1 e1)))⟩, ?_⟩
 show qEr 12 _ ∈ _
 rw [qCx, qCx, qCx, qCx]
 exact (by decide : ∀ k ∈ [12, 14, 15, 16], k ∈ [9, 11, 12, 13, 14, 15, 16]) _ e2
theorem qNr (xs : List Med) : (∀ m ∈ xs, Pst.MedOne m) -> ∀ {s : Nat}, s ∈ [9, 11, 12, 13, 14, 15, 16] -> path s (xs.flatMap qBn) /\ qEr s (xs.flatMap qBn) ∈ [9, 11, 12, 13, 14, 15, 16] := by
 induction xs with
 | nil => intro _ s h; exact ⟨trivial, h⟩
 | cons m xs ih =>
  intro hh s h
  obtain ⟨h1, h2⟩ := path_med m (hh m List.mem_cons_self) h
  obtain ⟨k1, k2⟩ := ih (fun m hm => hh m (List.mem_cons_of_mem _ hm)) h2
  rw [flatMap_cons]
  exact ⟨qA8 h1 k1, by rw [qCx]; exact k2⟩
theorem qMm (x : Ssn) (h : SsnOne x) (ht : 0 < x.times.length) : path 1 (lns x) /\ qEr 1 (lns x) ∈ [9, 11, 12, 13, 14, 15, 16] := by
 obtain ⟨a1, a2⟩ := qDz (f := Ln.li) (xs := x.info) (s := 4) [4] [4, 7] (by simp) h.info (fun x => by simp [Ln.from_]) (fun x => by simp [Ln.dst]) (by simp)
 obtain ⟨b1, b2⟩ := qDz (f := Ln.lu) (xs := x.uri) [4, 7] [4, 7, 10] a2 h.uri (fun x => by simp [Ln.from_]) (fun x => by simp [Ln.dst]) (by simp)
 obtain ⟨c1, c2⟩ := qDz (f := Ln.le) (xs := x.email) [4, 7, 10] [4, 6, 7, 10] b2 h.email (fun x => by simp [Ln.from_]) (fun x => by simp [Ln.dst]) (by simp)
 obtain ⟨d1, d2⟩ := qDz (f := Ln.lp) (xs := x.phone) [4, 6, 7, 10] [4, 6, 7, 8, 10] c2 h.phone (fun x => by simp [Ln.from_]) (fun x => by simp [Ln.dst]) (by simp)
 obtain ⟨e1, e2⟩ := qDz (f := Ln.lc) (xs := x.conn) [4, 6, 7, 8, 10] [4, 5, 6, 7, 8, 10] d2 h.conn (fun x => by simp [Ln.from_]) (fun x => by simp [Ln.dst]) (by simp)
 obtain ⟨f1, f2⟩ := qFr (f := Ln.lb) [4, 5, 6, 7, 8, 10] (fun x => by simp [Ln.from_]) (fun x => by simp [Ln.dst]) (xs := x.bws) e2
 obtain ⟨g1, _, g3⟩ := qNq x.times ((by decide : ∀ k ∈ [4, 5, 6, 7, 8, 10], k ∈ [4, 5, 6, 7, 8, 9, 10]) _ f2)
 have g2 := g3 ht
 generalize hg : qEr _ (x.times.flatMap qBl) = sg at g2
 have hz : path sg (if x.zones.length = 0 then [] else [Ln.lz x.zones]) /\ qEr sg (if x.zones.length = 0 then [] else [Ln.lz x.zones]) ∈ [9, 13] := by
  simp only [List.mem_singleton] at g2
  subst g2
  split
  · exact ⟨trivial, by simp [qEr]⟩
  exact ⟨⟨by simp [Ln.from_], trivial⟩, by simp [qEr, Ln.dst]⟩
 obtain ⟨z1, z2⟩ := hz
 obtain ⟨i1, i2⟩ := qDz (f := Ln.lk) (xs := x.key) [9, 13] [9, 11, 13] z2 h.key (fun x => by simp [Ln.from_]) (fun x => by simp [Ln.dst]) (by simp)
 obtain ⟨j1, j2⟩ := qFr (f := Ln.la) [9, 11, 13] (fun x => by simp [Ln.from_]) (fun x => by simp [Ln.dst]) (xs := x.atts) i2
 obtain ⟨k1, k2⟩ := qNr x.media h.media ((by decide : ∀ k ∈ [9, 11, 13], k ∈ [9, 11, 12, 13, 14, 15, 16]) _ j2)
 unfold lns
 refine ⟨⟨by simp [Ln.from_], by simp [Ln.from_, Ln.dst], by simp [Ln.from_, Ln.dst], ?_⟩, ?_⟩
 · show path 4 _
   refine qA8 a1 (qA8 b1 (qA8 c1 (qA8 d1 (qA8 e1 (qA8 f1 (qA8 g1 ?_))))))
   rw [hg]
   exact qA8 z1 (qA8 i1 (qA8 j1 k1))
 show qEr 4 _ ∈ _
 simp only [qCx, hg]
 exact k2
def zj (zs : List Zon) : List UInt8 := qAk [32] ((qBq zs).map mk)
theorem zw_len (zs : List Zon) : (qBq zs).length = 2 * zs.length := by
 unfold qBq
 induction zs with
 | nil => rfl
 | cons z zs ih =>
  rw [flatMap_cons, List.length_append, ih, List.length_cons]
  simp only [List.length_cons, List.length_nil]
  omega
theorem qLw {zs : List Zon} {k : Nat} (h : k < zs.length) : zj (zs.take (k + 1)) = (if k = 0 then [] else zj (zs.take k) ++ [32]) ++ ((decDigits (Int.toNat zs[k].time)) ++ (32 :: (itoa zs[k].off))) := by
 have hl : (zs.take k).length = k := by simp; omega
 have e : (qBq (zs.take (k + 1))).map mk = ((qBq (zs.take k)).map mk ++ [mk ((decDigits (Int.toNat zs[k].time)))]) ++ [mk ((itoa zs[k].off))] := by
  rw [qAt h]
  unfold qBq
  rw [List.flatMap_append, List.map_append]
  simp
 unfold zj
 rw [e, qGs, qGs, List.length_append, List.length_map, zw_len, hl, List.length_singleton, if_neg (by omega)]
 by_cases h0 : k = 0
 · subst h0
   simp [qDe]
 rw [if_neg (by omega), if_neg h0]
 simp [qDe]
end Go.Proofs.YtcepdjlknalmnaaGreatDoor

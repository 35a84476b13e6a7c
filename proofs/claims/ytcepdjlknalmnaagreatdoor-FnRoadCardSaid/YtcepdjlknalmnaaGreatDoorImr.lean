/- Laws of this claim. -/
import Derived.Test.YtcepdjlknalmnaaGreatDoorOwnB
import Derived.Test.YtcepdjlknalmnaaGreatDoorSam
import Derived.Test.YtcepdjlknalmnaaGreatDoorTos
import Derived.Test.YtcepdjlknalmnaaGreatDoorMss
import Derived.Laws.ResultCell
set_option linter.unusedSimpArgs false
set_option linter.unusedVariables false
namespace Go.Proofs.YtcepdjlknalmnaaGreatDoor
open Tryz
open Go.RowKit
theorem qNd {c : Con} (h : qLe c = true) : qBf c = c := by
 obtain ⟨n, a, l⟩ := c
 unfold qBf
 match l, h with
 | [], _ => rfl
 | [⟨s, t, r⟩], h =>
  unfold qLe qNy at h
  simp only [List.all_cons, List.all_nil, Bool.and_true, decide_eq_true_eq] at h
  have ht : t = [] := List.eq_nil_of_length_eq_zero (by omega)
  have hr : r = [] := List.eq_nil_of_length_eq_zero (by omega)
  subst ht; subst hr
  simp [qAx, qFa]
 | _ :: _ :: _, _ => rfl
theorem qRg {x : Ssn} (hv : x.ver = 0) (h : bare x = true) : qE7 x = x := by
 unfold bare qG4 at h
 simp only [List.all_append, List.all_flatMap, Bool.and_eq_true, List.all_eq_true] at h
 obtain ⟨h1, h2⟩ := h
 have e1 : x.conn.map qBf = x.conn := by
  conv => rhs; rw [<- List.map_id x.conn]
  exact List.map_congr_left (fun c hc => qNd (h1 c hc))
 have e2 : x.media.map Pst.flatMed = x.media := by
  conv => rhs; rw [<- List.map_id x.media]
  refine List.map_congr_left (fun y hy => ?_)
  have e3 : y.conn.map qBf = y.conn := by
   conv => rhs; rw [<- List.map_id y.conn]
   exact List.map_congr_left (fun c hc => qNd (h2 y hy c hc))
  unfold Pst.flatMed
  rw [e3]
  rfl
 unfold qE7
 rw [e1, e2, <- hv]
end Go.Proofs.YtcepdjlknalmnaaGreatDoor
/- A qC5 session's text is not too long. qB7. -/
namespace Go.Proofs.YtcepdjlknalmnaaGreatDoor
open Tryz
open Go.RowKit
theorem qNe {e : List UInt8} {n : Nat} : ∀ (ls : List (List UInt8)), (∀ l ∈ ls, l.length <= n) -> (qAm e ls).length <= ls.length * (n + e.length)
 | [], _ => by simp [qAm]
 | l :: ls, h => by
  have h1 := qNe (e := e) ls (fun x hx => h x (List.mem_cons_of_mem _ hx))
  have h2 := h l (List.mem_cons_self ..)
  have h3 : (qAm e (l :: ls)).length = l.length + e.length + (qAm e ls).length := by
   simp [qAm]; omega
  rw [h3, List.length_cons, Nat.succ_mul]
  omega
theorem qNf {x : Ssn} {w : World} {v0 v1 v2 v3 v4 v5 v6 v7 v8 v9 v10 : Value} (m : SsnAt w x v0 v1 v2 v3 v4 v5 v6 v7 v8 v9 v10) (hf : qDd x = true) (hp : qC5 x = true) (e : List UInt8) (he : e.length <= 2) : (qAm e (qCw x)).length <= 110000000000000 := by
 obtain ⟨h1, h2⟩ := qGp m hf
 obtain ⟨h3, h4, h5, h6, h7⟩ := qG0 hp h1
 rw [<- qGv x h7]
 have hw := qL6 (lns x)
 have h := qNe (e := e) (n := 100000000000) ((lns x).map Ln.text) (fun t ht => by
  obtain ⟨l, hl, rfl⟩ := List.mem_map.1 ht
  exact qM2 (h3 l hl) (h2 l hl))
 rw [List.length_map] at h
 have h8 : (lns x).length * (100000000000 + e.length) <= 1000 * (100000000000 + 2) := Nat.mul_le_mul (by omega) (by omega)
 omega
def qI4 (w : World) (g : Nat) : Array Value := match w.heap[g]? with
 | some (.cells c _ _) => c
 | _ => #[]
theorem qLm {w : World} {g : Nat} {l : List Value} {t : TypeId} (h : Blk w g l t) : qI4 w g = l.toArray := by
 unfold Blk at h
 simp [qI4, h]
theorem qN1 (w : World) (g : Nat) : qI4 w.drew g = qI4 w g := rfl
def qLn (w : World) (n : Nat) (t : TypeId) : Value -> Bool
 | .pointer (some ⟨g, 0, none⟩) => qHb w g n t
 | _ => false
theorem qN2 (w : World) (n : Nat) (t : TypeId) (g : Nat) : qLn w n t (.pointer (some ⟨g, 0, none⟩)) = qHb w g n t := rfl
theorem qRh (d : Option Tmp) (i : Tmp) (ty : TypeId) (pos : String) (after : Array Edge) (gd : Option (Nat × Bool)) (a : Act) (w : World) (K : Act -> World -> Prop) (Q : Exit -> Act -> World -> Prop)
 (h : qLn w 19 33 (a.eval (.tmp i)) = true) :
 Oper.wp prog ⟨d, .load 33 (.tmp i), ty, pos, after, gd⟩ a w K Q = K (a.put d (.agg (qI4 w (qIo (a.eval (.tmp i)))))) w := by
 unfold qLn at h
 split at h
 · rename_i g h1
   unfold qHb at h
   split at h
   · rename_i c t' fr hg
     simp only [Bool.and_eq_true, beq_iff_eq] at h
     obtain ⟨⟨h3, rfl⟩, rfl⟩ := h
     have hi : (prog.info? 33).map (·.size) = some c.size := by rw [h3]; kernel_rfl
     have h2 := run_loadVar_row w g 33 33 c (0, 0) _ hg underlying33 rfl hi
     have h4 : qI4 w g = c := by simp [qI4, hg]
     unfold Oper.wp execOp
     simp only [h1, Instr.loadAt, Instr.sureAddr, Sem.run_bind, Sem.run_pure, Result.andThen_ok, h2, qB5, h4]
     rfl
   cases h
 cases h
theorem qRi (d : Option Tmp) (i : Tmp) (ty : TypeId) (pos : String) (after : Array Edge) (gd : Option (Nat × Bool)) (a : Act) (w : World) (K : Act -> World -> Prop) (Q : Exit -> Act -> World -> Prop)
 (h : qLn w 19 43 (a.eval (.tmp i)) = true) :
 Oper.wp prog ⟨d, .load 43 (.tmp i), ty, pos, after, gd⟩ a w K Q = K (a.put d (.agg (qI4 w (qIo (a.eval (.tmp i)))))) w := by
 unfold qLn at h
 split at h
 · rename_i g h1
   unfold qHb at h
   split at h
   · rename_i c t' fr hg
     simp only [Bool.and_eq_true, beq_iff_eq] at h
     obtain ⟨⟨h3, rfl⟩, rfl⟩ := h
     have hi : (prog.info? 43).map (·.size) = some c.size := by rw [h3]; kernel_rfl
     have h2 := run_loadVar_row w g 43 43 c (0, 0) _ hg underlying43 rfl hi
     have h4 : qI4 w g = c := by simp [qI4, hg]
     unfold Oper.wp execOp
     simp only [h1, Instr.loadAt, Instr.sureAddr, Sem.run_bind, Sem.run_pure, Result.andThen_ok, h2, qB5, h4]
     rfl
   cases h
 cases h
theorem qNg {α β γ : Type} {f : α -> List β} {g : α -> List γ} (h : ∀ x, (f x).length <= (g x).length) : ∀ (l : List α), (l.flatMap f).length <= (l.flatMap g).length
 | [] => Nat.le_refl _
 | x :: l => by
  simp only [List.flatMap_cons, List.length_append]
  have := h x
  have := qNg h l
  omega
theorem cons_le (x : Ssn) : (qG4 x).length <= (lns x).length := by
 have h := qNg (f := fun m : Med => m.conn) (g := qBn) (fun m => by simp only [qBn, List.length_cons, List.length_append, List.length_map]; omega) x.media
 simp only [qG4, lns, List.length_cons, List.length_append, List.length_map]
 omega
theorem qMb {w : World} {g : Nat} {l : List Value} {d : Option Tmp} {i : Tmp} {ty : TypeId} {pos : String} {after : Array Edge} {gd : Option (Nat × Bool)} {a : Act} (h : Blk w g l 33) (hl : l.length = 19) (ha : a.eval (.tmp i) = .pointer (some ⟨g, 0, none⟩)) :
 (execOp a.eval ⟨d, .load 33 (.tmp i), ty, pos, after, gd⟩).run prog w = .ok (.value (.agg l.toArray)) w := by
 have hi : (prog.info? 33).map (·.size) = some l.toArray.size := by rw [List.size_toArray, hl]; kernel_rfl
 have h1 := run_loadVar_row w g 33 33 l.toArray (0, 0) _ h underlying33 rfl hi
 unfold execOp
 simp only [ha, Instr.loadAt, Instr.sureAddr, Sem.run_bind, Sem.run_pure, Result.andThen_ok, h1]
theorem qMc {w : World} {g : Nat} {l : List Value} {d : Option Tmp} {i : Tmp} {ty : TypeId} {pos : String} {after : Array Edge} {gd : Option (Nat × Bool)} {a : Act} (h : Blk w g l 43) (hl : l.length = 19) (ha : a.eval (.tmp i) = .pointer (some ⟨g, 0, none⟩)) :
 (execOp a.eval ⟨d, .load 43 (.tmp i), ty, pos, after, gd⟩).run prog w = .ok (.value (.agg l.toArray)) w := by
 have hi : (prog.info? 43).map (·.size) = some l.toArray.size := by rw [List.size_toArray, hl]; kernel_rfl
 have h1 := run_loadVar_row w g 43 43 l.toArray (0, 0) _ h underlying43 rfl hi
 unfold execOp
 simp only [ha, Instr.loadAt, Instr.sureAddr, Sem.run_bind, Sem.run_pure, Result.andThen_ok, h1]
abbrev zs33 : List Value := [.int .i64 0, .string ⟨#[]⟩, .int .u64 0, .int .u64 0, .string ⟨#[]⟩, .string ⟨#[]⟩, .string ⟨#[]⟩, .string ⟨#[]⟩, .slice none 0 0, .slice none 0 0, .slice none 0 0, .slice none 0 0, .slice none 0 0, .slice none 0 0, .slice none 0 0, .slice none 0 0, .slice none 0 0, .slice none 0 0, .slice none 0 0]
theorem ssn_form {w : World} {x : Ssn} {u0 u1 u2 u3 u4 u5 u6 u7 u8 u9 u10 : Value} (m : SsnAt w x u0 u1 u2 u3 u4 u5 u6 u7 u8 u9 u10) : ∃ C0 C1 C2 C3 C4 C5 C6 C7 C8 C9 C10 c0 c1 c2 c3 c4 c5 c6 c7 c8 c9 c10, u0 = .slice C0 x.info.length c0 /\ u1 = .slice C1 x.uri.length c1 /\ u2 = .slice C2 x.email.length c2 /\ u3 = .slice C3 x.phone.length c3 /\ u4 = .slice C4 x.conn.length c4 /\ u5 = .slice C5 x.bws.length c5 /\ u6 = .slice C6 x.times.length c6 /\ u7 = .slice C7 x.zones.length c7 /\ u8 = .slice C8 x.key.length c8 /\ u9 = .slice C9 x.atts.length c9 /\ u10 = .slice C10 x.media.length c10 := by
 obtain ⟨C0, c0, e0⟩ := Ty.Sl_form m.info
 obtain ⟨C1, c1, e1⟩ := Ty.Sl_form m.uri
 obtain ⟨C2, c2, e2⟩ := Ty.Sl_form m.email
 obtain ⟨C3, c3, e3⟩ := Ty.Sl_form m.phone
 obtain ⟨C4, c4, e4⟩ := Ty.Sl_form m.conn
 obtain ⟨C5, c5, e5⟩ := Ty.Sl_form m.bws
 obtain ⟨C6, c6, e6⟩ := Ty.Sl_form m.times
 obtain ⟨C7, c7, e7⟩ := Ty.Sl_form m.zones
 obtain ⟨C8, c8, e8⟩ := Ty.Sl_form m.key
 obtain ⟨C9, c9, e9⟩ := Ty.Sl_form m.atts
 obtain ⟨C10, c10, e10⟩ := Ty.Sl_form m.media
 exact ⟨C0, C1, C2, C3, C4, C5, C6, C7, C8, C9, C10, c0, c1, c2, c3, c4, c5, c6, c7, c8, c9, c10, e0, e1, e2, e3, e4, e5, e6, e7, e8, e9, e10⟩
theorem qRj {c : Con} (h : qDh c = true) : ∃ a, c.adrs = [a] /\ a.ttl.length <= 1 /\ a.rng.length <= 1 /\ ∀ n ∈ a.ttl ++ a.rng, 0 <= n := by
 unfold qDh at h
 simp only [Bool.and_eq_true] at h
 have h2 := h.2.2
 split at h2
 · rename_i y he
   simp only [Bool.and_eq_true, decide_eq_true_eq] at h2
   obtain ⟨_, h3, h4, h5⟩ := h2
   refine ⟨y, he, h3, h4, fun n hn => ?_⟩
   unfold qG7 at h5
   have := List.all_eq_true.1 h5 n hn
   unfold qLt at this
   simp only [Bool.and_eq_true, decide_eq_true_eq] at this
   exact this.1
 cases h2
theorem qRk {xs : List Con} (h : qEq xs = true) : qLf xs := by
 have h1 := qMt h
 refine ⟨h1.1, fun c hc => ?_⟩
 obtain ⟨a, e, h2, h3, _⟩ := qRj (h1.2 c hc)
 exact ⟨a, e, h2, h3⟩
theorem qRl {xs : List Con} (h : qEq xs = true) : ∀ c ∈ xs, ∀ a ∈ c.adrs, ∀ n ∈ a.ttl ++ a.rng, 0 <= n := fun c hc a ha => by
 obtain ⟨b, e, _, _, h4⟩ := qRj ((qMt h).2 c hc)
 rw [e] at ha
 rw [List.mem_singleton.1 ha]
 exact h4
structure Good (x : Ssn) : Prop where
 mar : MarOk x
 one : SsnOne x
 con : qLf x.conn
 lens : x.bws.length <= 2147483647 /\ x.atts.length <= 2147483647 /\ x.times.length <= 2147483647 /\ x.zones.length <= 2147483647 /\ x.media.length <= 2147483647
 times : ∀ t ∈ x.times, t.reps.length <= 2147483647 /\ ∀ r ∈ t.reps, r.offs.length <= 2147483647
 media : ∀ m ∈ x.media, MedTo m
theorem good_of {x : Ssn} {w : World} {v0 v1 v2 v3 v4 v5 v6 v7 v8 v9 v10 : Value} (m : SsnAt w x v0 v1 v2 v3 v4 v5 v6 v7 v8 v9 v10) (hf : qDd x = true) (hp : qC5 x = true) : Good x := by
 obtain ⟨h1, h2⟩ := qGp m hf
 obtain ⟨h3, h4, h5, h6, h7⟩ := qG0 hp h1
 have hj := qNf m hf hp [13, 10] (by decide)
 obtain ⟨l1, l2, l3⟩ := qM3 hf
 rw [<- qGv x h7] at hj
 have hp' := hp
 unfold qC5 qGk at hp'
 simp only [Bool.and_eq_true, List.all_eq_true] at hp'
 obtain ⟨_, _, hm, _, _, _, _, hc, _⟩ := hp'
 have hmed : ∀ y ∈ x.media, (0 <= y.port /\ ∀ n ∈ y.ports, 0 <= n) /\ (y.protos ≠ [] /\ y.fmts ≠ []) /\ y.ports.length <= 1 /\ qEq y.conn = true := fun y hy => by
  have h := hm y hy
  have hc := (qK5 h).2.1
  unfold qIw qCf at h
  simp only [Bool.and_eq_true, decide_eq_true_eq, List.all_eq_true] at h
  obtain ⟨⟨_, a1, _, a2, a3, _, a4, _⟩, b1, _⟩ := h
  refine ⟨⟨a1, fun n hn => ?_⟩, ⟨fun e => ?_, fun e => ?_⟩, a2, hc⟩
  · have := b1 n hn
    unfold qJu at this
    simp only [Bool.and_eq_true, decide_eq_true_eq] at this
    omega
  · rw [e] at a3; exact absurd a3 (by decide)
  rw [e] at a4; exact absurd a4 (by decide)
 refine ⟨⟨h7, qRl hc, fun y hy => ⟨(hmed y hy).1, (hmed y hy).2.1, qRl (hmed y hy).2.2.2⟩, ?_⟩, h5, qRk hc, l1, l2, fun y hy => ?_⟩
 · unfold jt
   omega
 obtain ⟨b1, b2, b3, b4⟩ := l3 y hy
 exact ⟨(hmed y hy).2.2.1, (h5.media y hy).1, (h5.media y hy).2.2, qRk (hmed y hy).2.2.2, b1, b2, b3, b4⟩
attribute [local go_sem ↓] Go.wp_at_zero Go.wp_at_succ
theorem buf_conv {o : Oper} {a : Act} {Q : Exit -> Act -> World -> Prop} {K : Act -> World -> Prop} {W : World} {B : Nat} {v : Value} {l : List UInt8} (src : TypeId) (x : Operand) (ho : o.op = .convert src 9 x) (hx : a.eval x = v) (hb : Buf W B v l) (hs : prog.underlying src = some (.slice 5))
 (h : K (a.put o.dst (.string (mk l))) W) : o.wp prog a W K Q := by
 unfold Oper.wp execOp
 simp only [ho, hx, Sem.run_bind, Sem.run_pure, Result.andThen_ok, buf_text hb src hs]
 exact h
theorem qIt {fn : Func} {p u : Tmp} (h : fn.results = #[.cell p 9, .tmp u]) (tmps : Array Value) (w : World) (g : Nat) (s : ByteArray) (v : Value) (hp : tmps.getD p undef = .pointer (some ⟨g, 0, none⟩)) (hu : tmps.getD u undef = v) (hc : w.cell? ⟨g, 0, none⟩ = some (.string s)) :
 (results fn tmps).run prog w = .ok (.tuple #[.string s, v]) w := by
 have hp' : tmps[p]?.getD undef = .pointer (some ⟨g, 0, none⟩) := by simpa using hp
 have hu' : tmps[u]?.getD undef = v := by simpa using hu
 simp [results, h, hp', hu', asAddr, go_sem, hc]
theorem ses_mar (x : Ssn) (w : World) (v0 v1 v2 v3 v4 v5 v6 v7 v8 v9 v10 : Value) (m : SsnAt w x v0 v1 v2 v3 v4 v5 v6 v7 v8 v9 v10) (hg : Good x) (hT : Lib.TabBelow prog w.heap.size w "internal/strconv.uint64pow10" .u64 Lib.pow10Tab) :
 Calls prog 52 #[qBv x v0 v1 v2 v3 v4 v5 v6 v7 v8 v9 v10] w fun e w' => ∃ D, e = .returned (.pointer (some ⟨D, 0, none⟩)) /\ Nw w w' ∧
  (Calls prog 53 #[.pointer (some ⟨D, 0, none⟩)] w' fun e w2 => ∃ v, e = .returned (.tuple #[v, .nilIface]) /\ Buf w2 w'.heap.size v (jt (lns x)) /\ Nw w' w2) ∧
  Calls prog 55 #[.pointer (some ⟨D, 0, none⟩)] w' (qBi (jt (lns x)).length w') := by
 refine (qL7 x w _ _ _ _ _ _ _ _ _ _ _ m hg.one hg.con hg.lens hg.times hg.media).mono ?_
 rintro e w' ⟨D, rfl, _, ⟨i, u, e, p, c, b, t, z, k, a, md, hD, hm⟩, hn⟩
 have hs := par_size x D w' i u e p c b t z k a md hD hm hg.mar
 have hl := hg.mar.len
 refine ⟨D, rfl, hn, qL8 x D w' i u e p c b t z k a md hD hm hg.mar (Lib.tabBelow_of_tabIs (hT.on hn).here) (hs.mono ?_), hs⟩
 rintro e w2 ⟨rfl, hn2⟩
 exact ⟨_, rfl, by omega, hn2⟩
def qF5 (x : Ssn) (v0 v1 v2 v3 v4 v5 v6 v7 v8 v9 v10 : Value) : List Value := [.int .i64 x.ver, .string x.org.user, .int .u64 x.org.id, .int .u64 x.org.ver, .string x.org.net, .string x.org.addr, .string x.org.adr, .string x.name, v0, v1, v2, v3, v4, v5, v6, v7, v8, v9, v10]
theorem enters51 : ∀ args w, (callFunc 51 args).run prog w = .ok (.enter 51 args) w := enters_of func51 (by kernel_rfl) rfl
set_option maxRecDepth 100000 in
theorem par_51 (x : Ssn) (w : World) (bx tx : Nat) (s0 : ByteArray) (v0 v1 v2 v3 v4 v5 v6 v7 v8 v9 v10 : Value) (hB : Blk w bx (qF5 x v0 v1 v2 v3 v4 v5 v6 v7 v8 v9 v10) 33) (m : SsnAt w x v0 v1 v2 v3 v4 v5 v6 v7 v8 v9 v10) (hX : Blk w tx [.string s0] 9) (hg : Good x)
 (hT : Lib.TabBelow prog w.heap.size w "internal/strconv.uint64pow10" .u64 Lib.pow10Tab) :
 Calls prog 51 #[.pointer (some ⟨bx, 0, none⟩), .pointer (some ⟨tx, 0, none⟩)] w fun e w' => ∃ w1, e = .returned (.bool true) /\ Nw w w1 /\ w' = w1.setCell ⟨tx, 0, none⟩ (.string (mk (jt (lns x)))) := by
 have HS := Lib.hid (ses_mar x w _ _ _ _ _ _ _ _ _ _ _ m hg hT)
 unfold qBv at HS
 unfold qF5 at hB
 have h1 := qQp
 clear m hg hT
 go_enter func51, ntmps51
 go_upto_region 1 with fail
 apply wp_region_lit
 refine wpList_load_row rfl 33 (.tmp 0) rfl bx rfl 33 _ (0, 0) _ hB underlying33 rfl (by kernel_rfl) ?_
 go_upto_region 2 with (first
  | (go_at_call 52; (with_reducible refine HS.out.mono ?_); rintro e w1 ⟨D, rfl, hn1, hc1, _⟩; have HC := Lib.hid hc1; clear hc1)
  | (go_at_call 53; (with_reducible refine HC.out.mono ?_); rintro e w2 ⟨v, rfl, hb2, hn2⟩; obtain ⟨A, n, c, rfl⟩ := hb2.form3; have hX2 := (hX.nw hn1).nw hn2; have x2 := hX2.cell 0 rfl; have z2 := hX2.fz 0))
 go_wp2_with (refine qAc rfl fun K hK => ?_; (with_reducible refine buf_conv 128 (.tmp 11) ?_ ?_ hb2 underlying128 ?_); (focus rfl); (focus rfl); refine hK _ _ ?_)
 go_ret
 exact ⟨w2, rfl, hn1.trans hn2, rfl⟩
theorem qRm (F : FuncId) (w : World) (bx tx : Nat) (u0 u : Value) (ty : TypeId) (hX : Blk w tx [u0] ty) (hen : ∀ args w, (callFunc F args).run prog w = .ok (.enter F args) w)
 (h : Calls prog F #[.pointer (some ⟨bx, 0, none⟩), .pointer (some ⟨tx, 0, none⟩)] (w.alloc (.cells #[.bool false] 4)) fun e w' => ∃ w1, e = .returned (.bool true) /\ Nw (w.alloc (.cells #[.bool false] 4)) w1 /\ w' = w1.setCell ⟨tx, 0, none⟩ u) :
 Calls prog 46 #[.func (.func F) #[] #[.pointer (some ⟨bx, 0, none⟩), .pointer (some ⟨tx, 0, none⟩)]] w fun e w' => e = .returned (.bool true) /\ Blk w' tx [u] ty /\ Fr (fun k => k = tx) w w' := by
 have hlt := hX.lt
 have hne : ¬ w.heap.size = tx := by omega
 have bO := Blk.made w [.bool false] 4
 refine (par_tryG F _ w (fun b w1 => b = true /\ ∃ wz, Nw (w.alloc (.cells #[.bool false] 4)) wz /\ w1 = wz.setCell ⟨tx, 0, none⟩ u) hen (h.mono ?_)).mono ?_
 · rintro e w' ⟨w1, rfl, hn, rfl⟩
   have hO := (bO.nw hn).other (p := ⟨tx, 0, none⟩) hne u
   exact ⟨true, rfl, ⟨rfl, w1, hn, rfl⟩, hO.cell 0 rfl, hO.fz 0⟩
 rintro e w' ⟨b, w1, rfl, ⟨rfl, wz, hn, rfl⟩, rfl⟩
 have hY : Blk (wz.setCell ⟨tx, 0, none⟩ u) tx [u] ty := ((hX.alloc _).nw hn).set 0 u
 have f1 : Fr (fun k => k = tx) w wz := (((Nw.refl w).alloc _).trans hn).fr _
 exact ⟨rfl, hY.other (p := ⟨w.heap.size, 0, none⟩) (fun e => hne e.symm) _, (f1.setCell (.inl rfl) _).setCell (.inr (Nat.le_refl _)) _⟩
set_option maxRecDepth 100000 in
theorem qIu (x : Ssn) (w : World) (v0 v1 v2 v3 v4 v5 v6 v7 v8 v9 v10 : Value) (m : SsnAt w x v0 v1 v2 v3 v4 v5 v6 v7 v8 v9 v10) (hg : Good x) (hT : Lib.TabIs prog w "internal/strconv.uint64pow10" .u64 Lib.pow10Tab) :
 Calls prog 17 #[qBv x v0 v1 v2 v3 v4 v5 v6 v7 v8 v9 v10] w fun e w' => e = .returned (.tuple #[.string (mk (jt (lns x))), .bool true]) /\ Nw w w' := by
 obtain ⟨bx, hbx⟩ : ∃ g, g = w.heap.size := ⟨_, rfl⟩
 obtain ⟨tx, htx⟩ : ∃ g, g = w.heap.size + 1 := ⟨_, rfl⟩
 obtain ⟨w2, hw2⟩ : ∃ z, z = (w.alloc (.cells (qF5 x v0 v1 v2 v3 v4 v5 v6 v7 v8 v9 v10).toArray 33)).alloc (.cells #[.string ⟨#[]⟩] 9) := ⟨_, rfl⟩
 have q2 : Nw w w2 := by rw [hw2]; exact ((Nw.refl w).alloc _).alloc _
 have hB : Blk w2 bx (qF5 x v0 v1 v2 v3 v4 v5 v6 v7 v8 v9 v10) 33 := by rw [hw2, hbx]; exact (Blk.made w _ 33).alloc _
 have hX : Blk w2 tx [.string ⟨#[]⟩] 9 := by
  have := Blk.made (w.alloc (.cells (qF5 x v0 v1 v2 v3 v4 v5 v6 v7 v8 v9 v10).toArray 33)) [.string ⟨#[]⟩] 9
  rw [hw2, htx]; simpa using this
 have qz : Nw w (w2.alloc (.cells #[.bool false] 4)) := q2.alloc _
 have HC := Lib.hid (qRm 51 w2 bx tx _ (.string (mk (jt (lns x)))) 9 hX enters51 (par_51 x _ bx tx _ _ _ _ _ _ _ _ _ _ _ _ (hB.alloc _) (m.loc (Nw.block qz)) (hX.alloc _) hg (Lib.tabBelow_of_tabIs ((Lib.tabBelow_of_tabIs hT).on qz).here)))
 have hmf : ∀ (fn : Fn) (first cap : Array Value) (w : World), (Instr.makeFunc fn first cap).run prog w = .ok (.func fn first cap) w := fun _ _ _ _ => rfl
 have hle : w.heap.size <= tx := by omega
 unfold qF5 at hw2
 unfold qBv
 obtain ⟨A0, n0, rfl⟩ := Ty.Sl_form m.info
 obtain ⟨A1, n1, rfl⟩ := Ty.Sl_form m.uri
 obtain ⟨A2, n2, rfl⟩ := Ty.Sl_form m.email
 obtain ⟨A3, n3, rfl⟩ := Ty.Sl_form m.phone
 obtain ⟨A4, n4, rfl⟩ := Ty.Sl_form m.conn
 obtain ⟨A5, n5, rfl⟩ := Ty.Sl_form m.bws
 obtain ⟨A6, n6, rfl⟩ := Ty.Sl_form m.times
 obtain ⟨A7, n7, rfl⟩ := Ty.Sl_form m.zones
 obtain ⟨A8, n8, rfl⟩ := Ty.Sl_form m.key
 obtain ⟨A9, n9, rfl⟩ := Ty.Sl_form m.atts
 obtain ⟨A10, n10, rfl⟩ := Ty.Sl_form m.media
 have HQ := Lib.hid q2
 clear m qz hg hT hB hX q2
 go_enter func17, ntmps17
 go_upto_region 1 with fail
 rw [<- hw2, <- htx, <- hbx]
 clear hw2 htx hbx
 go_wp2_with (go_at_call 46; (with_reducible refine HC.out.mono ?_); rintro e w5 ⟨rfl, hX5, hF5⟩; have x5 := hX5.cell 0 rfl; have z5 := hX5.fz 0)
 refine bodyPost_ret (qIt (fn := f17) rfl _ _ tx (mk (jt (lns x))) (.bool true) rfl rfl ((hX5.set 0 _).cell 0 rfl)) rfl ?_
 exact ⟨rfl, (HQ.out.frIn hF5 (fun k e => by rw [e]; exact hle)).setCell hle _⟩
end Go.Proofs.YtcepdjlknalmnaaGreatDoor

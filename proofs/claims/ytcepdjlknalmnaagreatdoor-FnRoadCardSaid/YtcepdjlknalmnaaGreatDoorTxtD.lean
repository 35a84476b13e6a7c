/- Laws of this claim. -/
import Derived.Test.YtcepdjlknalmnaaGreatDoorSpecD
import Derived.Lib.ItoaNum
import Derived.Lib.ItoaLen
import Derived.Lib.SmallJoins
import Derived.Deep.RegionHeld3
import Derived.Deep.DrawnRows
set_option linter.unusedSimpArgs false
set_option linter.unusedVariables false
namespace Go.Proofs.YtcepdjlknalmnaaGreatDoor
open Tryz
open List (length_append flatMap_append take_of_length_le append_assoc)
open Lib (decDigits hid itoa)
open Go.RowKit
def mk (l : List UInt8) : ByteArray := ⟨l.toArray⟩
theorem qDe (l : List UInt8) : (mk l).data.toList = l := rfl
theorem qAy (l : List UInt8) : (mk l).size = l.length := by rw [<- qA4, qDe]
theorem qN7 (s : ByteArray) : mk s.data.toList = s := rfl
theorem qEp (a b : List UInt8) : mk a ++ mk b = mk (a ++ b) := by
 rw [<- qN7 (mk a ++ mk b), Go.Joins.data_append]; rfl
theorem qNl (s t : ByteArray) : s ++ t = mk (s.data.toList ++ t.data.toList) := by
 rw [<- qN7 (s ++ t), Go.Joins.data_append]
theorem qH7 {a b : ByteArray} (h : a = b) : Ending.returned (.string a) = .returned (.string b) := by rw [h]
set_option maxRecDepth 100000 in
theorem qE4 (n : Int) (w : World) (h1 : 0 <= n) (h2 : n < 10) :
 Calls prog 32 #[.int .u64 n] w fun e w' => e = .returned (.string (mk (decDigits n.toNat))) /\ Nw w w' := by
 have hk : (convert 128 9 (.slice (some ⟨w.heap.size, 0, none⟩) 1 1)).run prog (w.alloc (.cells #[.int .u8 (48 + n)] 5)) = .ok (.string (strOfNums [48 + n])) (w.alloc (.cells #[.int .u8 (48 + n)] 5)) := by
  refine run_convert_bytes_arg (P := prog) (w.alloc (.cells #[.int .u8 (48 + n)] 5)) 128 5 underlying128 underlying5 w.heap.size 0 1 1 [48 + n] rfl (fun i hi => ?_) 9 underlying9
  obtain rfl : i = 0 := by omega
  simp
 have HV : Hid (strOfNums [48 + n] = mk (decDigits n.toNat)) := hid (by
  rw [Lib.decDigits_one (by omega)]
  simp only [strOfNums, List.map_cons, List.map_nil, mk]
  rw [show (48 + n).toNat = 48 + n.toNat by omega])
 go_enter func32, ntmps32
 go_wp2
 go_ret
 exact ⟨qH7 HV.out, (Nw.refl w).alloc _⟩
theorem qMh {u : Nat} (h : ¬ u < 10) : decDigits u = decDigits (u / 10) ++ decDigits (u % 10) := by
 rw [Lib.decDigits_one (i := u % 10) (by omega)]
 conv => lhs; rw [decDigits]
 rw [dif_neg h]
theorem qDf {u : Nat} (h : u < 18446744073709551616) : (mk (decDigits u)).size <= 20 := by
 rw [qAy, Lib.decDigits_length]
 exact Lib.nDigits_le20 u h
theorem qKe (k : Nat) : ∀ (n : Int) (w : World), n < (10 : Int) ^ k -> 0 <= n -> n < 18446744073709551616 →
 Calls prog 32 #[.int .u64 n] w fun e w' => e = .returned (.string (mk (decDigits n.toNat))) /\ Nw w w' := by
 induction k with
 | zero =>
  intro n w h1 h2 h3
  exact qE4 n w h2 (by simp at h1; omega)
 | succ k ih =>
  intro n w h1 h2 h3
  by_cases hlt : n < 10
  · exact qE4 n w h2 hlt
  have hq : n / 10 < (10 : Int) ^ k := by
   rw [Int.pow_succ] at h1
   generalize (10 : Int) ^ k = p at h1 ⊢
   omega
  have HI := hid ih
  clear ih h1
  have z1 := qDf (u := (n / 10).toNat) (by omega)
  have z2 := qDf (u := (n % 10).toNat) (by omega)
  have HV : Hid (decDigits (n / 10).toNat ++ decDigits (n % 10).toNat = decDigits n.toNat) := hid (by
   rw [qMh (u := n.toNat) (by omega), show (n / 10).toNat = n.toNat / 10 by omega, show (n % 10).toNat = n.toNat % 10 by omega])
  have HQ := hid hq
  clear hq
  go_enter func32, ntmps32
  go_wp2_with fail
  refine (HI.out (n / 10) w HQ.out (by omega) (by omega)).mono ?_
  rintro e w1 ⟨rfl, hn1⟩
  go_wp2_with fail
  refine (qE4 (n % 10) w1 (by omega) (by omega)).mono ?_
  rintro e w2 ⟨rfl, hn2⟩
  go_wp2_with fail
  go_ret
  exact ⟨qH7 (by rw [qEp, HV.out]), hn1.trans hn2⟩
theorem qDg (n : Int) (w : World) (h0 : 0 <= n) (h1 : n < 18446744073709551616) : Calls prog 32 #[.int .u64 n] w fun e w' => e = .returned (.string (mk (decDigits n.toNat))) /\ Nw w w' :=
 qKe 20 n w (by omega) h0 h1
set_option maxRecDepth 100000 in
theorem qD2 (n : Int) (w : World) (hn : qAg .i64 n) :
 Calls prog 31 #[.int .i64 n] w fun e w' => e = .returned (.string (mk (itoa n))) /\ Nw w w' := by
 have h0 : -9223372036854775808 <= n := hn.1
 have h1 : n <= 9223372036854775807 := hn.2
 clear hn
 by_cases hm : n = -9223372036854775808
 · subst hm
   clear h0 h1
   obtain ⟨N, hN⟩ : ∃ N : Int, N = 9223372036854775808 := ⟨_, rfl⟩
   have HV : Hid (itoa (-9223372036854775808) = 45 :: decDigits N.toNat) := hid (by unfold itoa; rw [if_pos (by decide), hN]; rfl)
   have z1 := qDf (u := N.toNat) (by omega)
   go_enter func31, ntmps31
   go_wp2_with fail
   rw [show IntKind.u64.wrap (wrap64 9223372036854775808) = N by rw [hN]; kernel_rfl]
   have o1 : 0 <= N := by omega
   have o2 : N < 18446744073709551616 := by omega
   clear hN
   refine (qDg N w o1 o2).mono ?_
   rintro e w1 ⟨rfl, hn1⟩
   go_wp2_with fail
   go_ret
   exact ⟨qH7 (by rw [HV.out, show (45 :: decDigits N.toNat) = [45] ++ decDigits N.toNat by rfl, <- qEp]; rfl), hn1⟩
 by_cases hn : n < 0
 · have z1 := qDf (u := (-n).toNat) (by omega)
   have HV : Hid (itoa n = 45 :: decDigits (-n).toNat) := hid (by unfold itoa; rw [if_pos hn, show n.natAbs = (-n).toNat by omega])
   go_enter func31, ntmps31
   go_wp2_with fail
   refine (qDg (-n) w (by omega) (by omega)).mono ?_
   rintro e w1 ⟨rfl, hn1⟩
   go_wp2_with fail
   go_ret
   exact ⟨qH7 (by rw [HV.out, show (45 :: decDigits (-n).toNat) = [45] ++ decDigits (-n).toNat by rfl, <- qEp]; rfl), hn1⟩
 have HV : Hid (itoa n = decDigits n.toNat) := hid (by unfold itoa; rw [if_neg hn])
 go_enter func31, ntmps31
 go_wp2_with fail
 refine (qDg n w (by omega) (by omega)).mono ?_
 rintro e w1 ⟨rfl, hn1⟩
 go_wp2_with fail
 go_ret
 exact ⟨qH7 (by rw [HV.out]), hn1⟩
end Go.Proofs.YtcepdjlknalmnaaGreatDoor
/- The reference's lists of lines: joined, text, attributes. -/
namespace Go.Proofs.YtcepdjlknalmnaaGreatDoor
open Tryz
open List (length_append flatMap_append take_of_length_le append_assoc)
open Lib (decDigits hid itoa)
open Go.RowKit
abbrev bs (s : ByteArray) : List UInt8 := s.data.toList
theorem bs_mk (l : List UInt8) : bs (mk l) = l := rfl
theorem cat (s t : ByteArray) : s ++ t = mk (bs s ++ bs t) := qNl s t
theorem qCq (s t : ByteArray) : (s ++ t).size = s.size + t.size := by rw [<- qA4, Go.Joins.data_append, length_append, qA4, qA4]
theorem qC4 (s : ByteArray) : (bs s).length = s.size := qA4 s
def qAk (sep : List UInt8) : List ByteArray -> List UInt8
 | [] => []
 | x :: l => bs x ++ l.flatMap (fun y => sep ++ bs y)
theorem qGs (sep : List UInt8) (l : List ByteArray) (y : ByteArray) : qAk sep (l ++ [y]) = if l.length = 0 then bs y else qAk sep l ++ (sep ++ bs y) := by
 match l with
 | [] => simp [qAk]
 | x :: l => simp [qAk, flatMap_append]
theorem qAt {α : Type} {xs : List α} {k : Nat} (h : k < xs.length) : xs.take (k + 1) = xs.take k ++ [xs[k]] := by
 rw [List.take_add_one, List.getElem?_eq_getElem h]; rfl
theorem qGt {α β : Type} {xs : List α} {k : Nat} (f : α -> β) (h : k < xs.length) : (xs.take k).map f ++ [f xs[k]] = (xs.take (k + 1)).map f := by
 rw [qAt h, List.map_append]; rfl
theorem join_le (sep : List UInt8) (l m : List ByteArray) : (qAk sep l).length <= (qAk sep (l ++ m)).length := by
 match l with
 | [] => simp [qAk]
 | x :: l => simp [qAk, flatMap_append]
theorem qHl (sep : List UInt8) (l : List ByteArray) (k : Nat) : (qAk sep (l.take k)).length <= (qAk sep l).length := by
 conv => rhs; rw [<- List.take_append_drop k l]
 exact join_le sep _ _
set_option maxRecDepth 100000 in
theorem qGi (xs : List ByteArray) (v : Value) (s : ByteArray) (w : World) (h : qAd.Sl w xs v) (hb : (qAk (bs s) xs).length <= qBj) :
 Calls prog 36 #[v, .string s] w fun e w' => e = .returned (.string (mk (qAk (bs s) xs))) /\ Nw w w' := by
 obtain ⟨A, c, rfl⟩ := Ty.Sl_form h
 have hm := h.1
 go_enter func36, ntmps36
 go_wp2
 go_loop [5, 10] (fun out i => ∃ k : Nat, k <= xs.length /\ i = .int .i64 k /\ out = .string (mk (qAk (bs s) (xs.take k)))) (fun out i => xs.length - (intOf i).toNat)
 case atStart => exact ⟨0, Nat.zero_le _, rfl, rfl⟩
 obtain ⟨k, hk, rfl, rfl⟩ := hrel
 by_cases hlt : k < xs.length
 · obtain ⟨b, o, rfl, ha⟩ := Ty.Sl_at h k hlt
   obtain ⟨cs, ⟨rfl, hwf⟩, hx⟩ := ha k _ (List.getElem?_eq_getElem hlt)
   have hx := hx 0 _ rfl
   simp only [qAd, Ty.flat, Nat.mul_one, Nat.add_zero] at hx
   have hj := qGs (bs s) (xs.take k) xs[k]
   rw [<- qAt hlt] at hj
   have hle := qHl (bs s) xs (k + 1)
   have hsz := qAy (qAk (bs s) (xs.take k))
   have hl0 : (xs.take k).length = k := by simp; omega
   by_cases hk0 : (0 : Int) < (k : Int)
   · rw [if_neg (by omega)] at hj
     rw [hj] at hle
     simp only [length_append, qC4] at hle
     have g1 : (mk (qAk (bs s) (xs.take k))).size + s.size + xs[k].size <= qBj := by omega
     have g2 : (mk (qAk (bs s) (xs.take k)) ++ s).size = (mk (qAk (bs s) (xs.take k))).size + s.size := by rw [<- qA4, Go.Joins.data_append, length_append, qA4, qA4]
     simp only [qBj] at g1
     have HJ : Hid (mk (qAk (bs s) (xs.take k)) ++ s ++ xs[k] = mk (qAk (bs s) (xs.take (k + 1)))) := hid (by
      rw [hj, <- qN7 s, qEp, <- qN7 xs[k], qEp]; simp [qDe])
     clear hj hle hsz hb hl0
     go_wp2
     exact ⟨⟨k + 1, by omega, by go_num, by rw [HJ.out]⟩, by simp [intOf]; omega⟩
   rw [if_pos (by omega)] at hj
   have h0 : k = 0 := by omega
   subst h0
   have hx : w.cell? ⟨b, o, none⟩ = some (.string xs[0]) := by simpa using hx
   have HJ : Hid (mk (qAk (bs s) []) ++ xs[0] = mk (qAk (bs s) (xs.take (0 + 1)))) := hid (by
    rw [hj, <- qN7 xs[0], qEp]; simp [qAk, qDe])
   have hz : (mk (qAk (bs s) [])).size = 0 := by rw [qAy]; simp [qAk]
   have hwf2 : xs[0].size <= 1152921504606846976 := hwf
   clear hj hle hsz hb hl0
   go_wp2
   exact ⟨⟨1, by omega, by go_num, by rw [HJ.out]⟩, by simp [intOf]; omega⟩
 rw [take_of_length_le (by omega)]
 go_wp2
 go_ret
 exact ⟨rfl, Nw.refl _⟩
def qB2 (w : World) (B : Nat) (v : Value) (ls : List (List UInt8)) : Prop := Row w B 9 1 v ((ls.map mk).map (fun s => [Value.string s]))
structure Lns (ls : List (List UInt8)) : Prop where
 len : ls.length <= 1099511627776
 all : ∀ l ∈ ls, l.length <= qBj
theorem Lns.left {a b : List (List UInt8)} (h : Lns (a ++ b)) : Lns a := ⟨by have := h.len; simp at this; omega, fun l hl => h.all l (List.mem_append_left _ hl)⟩
theorem Lns.right {a b : List (List UInt8)} (h : Lns (a ++ b)) : Lns b := ⟨by have := h.len; simp at this; omega, fun l hl => h.all l (List.mem_append_right _ hl)⟩
theorem qB2.sl {w : World} {B : Nat} {v : Value} {ls : List (List UInt8)} (h : qB2 w B v ls) (hl : Lns ls) : qAd.Sl w (ls.map mk) v :=
 Row.slFlat (enc := fun s => [Value.string s]) (wf := qAb) h (by have := hl.len; simp; omega) (fun x hx => by
  obtain ⟨l, hl1, rfl⟩ := List.mem_map.1 hx
  unfold qAb
  rw [qAy]
  exact hl.all l hl1)
theorem qB2.form {w : World} {B : Nat} {v : Value} {ls : List (List UInt8)} (h : qB2 w B v ls) : ∃ A c, v = .slice A ls.length c /\ ls.length <= c := by
 obtain ⟨A, c, h1, h2⟩ := Row.form h
 exact ⟨A, c, by rw [h1]; simp, by simpa using h2⟩
theorem qB2.nil (w : World) (B : Nat) : qB2 w B (.slice none 0 0) [] := Row.nil _ _ _ _
theorem inf9 : (prog.info? 9).map (fun i => (i.zero, i.size, i.bytes)) = some (some (.string ⟨#[]⟩), 1, 16) := by kernel_rfl
theorem news_map {W : World} {ys : List ByteArray} : ∀ {news : List (List Value)}, news.length = ys.length -> (∀ (k : Nat) y r, ys[k]? = some y -> news[k]? = some r -> qAd.rel W y r) -> news = ys.map (fun s => [Value.string s]) := by
 intro news h1 h2
 apply List.ext_getElem?
 intro k
 rcases Nat.lt_or_ge k ys.length with hk | hk
 · have := (h2 k _ _ (List.getElem?_eq_getElem hk) (List.getElem?_eq_getElem (by omega))).1
   rw [List.getElem?_eq_getElem (by omega), this]
   simp [hk]
 rw [List.getElem?_eq_none (by omega), List.getElem?_eq_none (by simp; omega)]
theorem qBa {ops : Array Oper} {o : Oper} {a : Act} {Q : Exit -> Act -> World -> Prop} {K : Act -> World -> Prop} {w0 W : World} (s x : Operand)
 (ho : o.op = .call { callee := .builtin .append, args := #[s, x], argTypes := #[25, 25] }) (v u : Value) (ls ms : List (List UInt8)) (hs : a.eval s = v) (hx : a.eval x = u)
 (hu : qAd.Sl W (ms.map mk) u) (HO : qB2 W w0.heap.size v ls) (hn : Nw w0 W) (hl : ls.length + ms.length <= 1099511627776)
 (h : ∀ v1 w1, qB2 w1 w0.heap.size v1 (ls ++ ms) -> Nw w0 w1 -> Fr (fun k => some k = v.ownBlock) W w1 -> (v1.ownBlock = v.ownBlock ∨ ∃ b, v1.ownBlock = some b /\ W.heap.size <= b) -> K (a.put o.dst v1) w1) :
 o.wp prog a W K Q := by
 refine qCh (T := qAd) w0.heap.size s x 25 9 (.string ⟨#[]⟩) 16 ho underlying25 inf9 rfl (by decide) v u _ (ms.map mk) hs hx hu HO hn.size (by simp; omega) (by simp; omega) ?_
 intro v1 w1 news h1 h2 h3 h4 h5
 rw [news_map h1 h2, <- List.map_append, <- List.map_append] at h3
 exact h v1 w1 h3 (hn.frIn h4 (fun i hi => (HO.base i hi.symm).1)) h4 h5
theorem qCd {ops : Array Oper} {o : Oper} {a : Act} {Q : Exit -> Act -> World -> Prop} {K : Act -> World -> Prop} {w0 W : World} (s x : Operand)
 (ho : o.op = .call { callee := .builtin .append, args := #[s, x], argTypes := #[25, 25] }) (v : Value) (ls : List (List UInt8)) (S : ByteArray) (l : List UInt8) (hS : Hid (S = mk l)) (hs : a.eval s = v) (g : Nat) (hx : a.eval x = .slice (some ⟨g, 0, none⟩) 1 1) (hg : g = W.heap.size)
 (HO : qB2 W w0.heap.size v ls) (hn : Nw w0 W) (hl : ls.length + 1 <= 1099511627776)
 (h : ∀ v1 w1, qB2 w1 w0.heap.size v1 (ls ++ [l]) -> Nw w0 w1 -> Fr (fun k => some k = v.ownBlock) W w1 -> (v1.ownBlock = v.ownBlock ∨ ∃ b, v1.ownBlock = some b /\ W.heap.size <= b) -> K (a.put o.dst v1) w1) :
 o.wp prog a (W.alloc (.cells #[.string S] 9)) K Q := by
 obtain rfl := hS.out
 subst hg
 refine qI7 w0.heap.size s x 25 9 1 (.string ⟨#[]⟩) 16 ho underlying25 inf9 rfl (by decide) v _ [.string (mk l)] hs hx rfl (fun u hu => by rw [List.mem_singleton.1 hu]; rfl) HO hn.size (by simp; omega) (by simp; omega) ?_
 intro v1 w1 h3 h4 h5
 exact h v1 w1 (by unfold qB2; simpa using h3) (hn.frIn h4 (fun i hi => (HO.base i hi.symm).1)) h4 h5
def qCa (s : ByteArray) (xs : List ByteArray) : List (List UInt8) := xs.map (fun x => bs s ++ [61] ++ bs x)
set_option maxRecDepth 100000 in
theorem qD3 (s : ByteArray) (xs : List ByteArray) (v : Value) (w : World) (h : qAd.Sl w xs v) (hb : Lns (qCa s xs)) (hs : s.size <= 10) :
 Calls prog 33 #[.string s, v] w fun e w' => ∃ v', e = .returned v' /\ qB2 w' w.heap.size v' (qCa s xs) /\ Nw w w' := by
 obtain ⟨A, c, rfl⟩ := Ty.Sl_form h
 have hm := h.1
 have hlen : xs.length <= 1099511627776 := by have := hb.len; simpa [qCa] using this
 go_enter func33, ntmps33
 go_wp2
 go_loopw [5, 10] (fun out i wr => ∃ k : Nat, k <= xs.length /\ i = .int .i64 k /\ qB2 wr w.heap.size out (qCa s (xs.take k)) /\ Nw w wr) (fun out i _ => xs.length - (intOf i).toNat)
 case atStart => exact ⟨0, Nat.zero_le _, rfl, qB2.nil _ _, Nw.refl _⟩
 obtain ⟨k, hk, rfl, hrow, hnw⟩ := hrel
 by_cases hlt : k < xs.length
 · obtain ⟨b, o, rfl, ha⟩ := Ty.Sl_at h k hlt
   obtain ⟨cs, ⟨rfl, hwf⟩, hx⟩ := Ty.At_loc hnw.block ha k _ (List.getElem?_eq_getElem hlt)
   have hx := hx 0 _ rfl
   simp only [qAd, Ty.flat, Nat.mul_one, Nat.add_zero] at hx
   have hwf2 : xs[k].size <= 1152921504606846976 := hwf
   have HS : Hid (s ++ ⟨#[61]⟩ ++ xs[k] = mk (bs s ++ [61] ++ bs xs[k])) := hid (by (simp [cat, bs, mk, append_assoc]))
   have HT : Hid (qCa s (xs.take k) ++ [bs s ++ [61] ++ bs xs[k]] = qCa s (xs.take (k + 1))) := hid (qGt _ hlt)
   have g2 : (s ++ ⟨#[61]⟩).size = s.size + 1 := qCq _ _
   have hk2 : (qCa s (xs.take k)).length <= k := by simp [qCa]; omega
   go_wp2_with (first | (refine qAc rfl fun K hK => ?_; refine qCd (ops := #[]) (.tmp 14) (.tmp 19) rfl u5 (qCa s (xs.take k)) _ _ HS rfl _ rfl rfl hrow hnw (by omega) ?_; intro v1 w1 hr1 hn1 _ _; refine hK _ _ ?_))
   exact ⟨⟨k + 1, by omega, by go_num, by rw [<- HT.out]; exact hr1, hn1⟩, by simp [intOf]; omega⟩
 rw [take_of_length_le (by omega)] at hrow
 go_wp2
 go_ret
 exact ⟨_, rfl, hrow, hnw⟩
end Go.Proofs.YtcepdjlknalmnaaGreatDoor
/- The reference's lines of attributes and of times. -/
namespace Go.Proofs.YtcepdjlknalmnaaGreatDoor
open Tryz
open List (length_append flatMap_append take_of_length_le append_assoc)
open Lib (decDigits hid itoa)
open Go.RowKit
attribute [local go_sem ↓] Go.wp_at_zero Go.wp_at_succ
def qHm (a : Att) : List UInt8 := [97, 61] ++ bs a.key ++ (if a.val.size = 0 then [] else [58] ++ bs a.val)
theorem qB2.alloc {w : World} {B : Nat} {v : Value} {ls : List (List UInt8)} (h : qB2 w B v ls) (o : Obj) : qB2 (w.alloc o) B v ls := Row.alloc h o
theorem qB2.nw {w w1 : World} {B : Nat} {v : Value} {ls : List (List UInt8)} (h : qB2 w B v ls) (hn : Nw w w1) : qB2 w1 B v ls := Row.nw h hn
theorem qE5 (s : ByteArray) : s.toList.isEmpty = decide (s.size = 0) := by
 rw [<- qA4, ByteArray.toList_eq]
 cases h : s.data.toList <;> simp
set_option maxRecDepth 100000 in
theorem qH8 (xs : List Att) (v : Value) (w : World) (h : qBy.Sl w xs v) (hb : Lns (xs.map qHm)) :
 Calls prog 37 #[v] w fun e w' => ∃ v', e = .returned v' /\ qB2 w' w.heap.size v' (xs.map qHm) /\ Nw w w' := by
 obtain ⟨A, c, rfl⟩ := Ty.Sl_form h
 have hm := h.1
 have hlen : xs.length <= 1099511627776 := by have := hb.len; simpa using this
 go_enter func37, ntmps37
 go_wp2
 go_loopw [3, 9] (fun out i wr => ∃ k : Nat, k <= xs.length /\ i = .int .i64 k /\ qB2 wr w.heap.size out ((xs.take k).map qHm) /\ Nw w wr) (fun out i _ => xs.length - (intOf i).toNat)
 case atStart => exact ⟨0, Nat.zero_le _, rfl, qB2.nil _ _, Nw.refl _⟩
 obtain ⟨k, hk, rfl, hrow, hnw⟩ := hrel
 by_cases hlt : k < xs.length
 · obtain ⟨b, o, rfl, ha⟩ := Ty.Sl_at h k hlt
   obtain ⟨cs, ⟨rfl, hwf, hwf'⟩, hx⟩ := Ty.At_loc hnw.block ha k _ (List.getElem?_eq_getElem hlt)
   have c0 := hx 0 _ rfl
   have c1 := hx 1 _ rfl
   simp only [qBy, Ty.flat, Nat.add_zero] at c0 c1
   have q1 : xs[k].key.size <= 1152921504606846976 := hwf
   have q2 : xs[k].val.size <= 1152921504606846976 := hwf'
   have HT : Hid ((xs.take k).map qHm ++ [qHm xs[k]] = (xs.take (k + 1)).map qHm) := hid (qGt _ hlt)
   have hk2 : ((xs.take k).map qHm).length <= k := by simp; omega
   have hne := qE5 xs[k].val
   by_cases hv : xs[k].val.size = 0
   · have HS : Hid ((⟨#[97, 61]⟩ : ByteArray) ++ xs[k].key = mk (qHm xs[k])) := hid (by unfold qHm; rw [if_pos hv]; (simp [cat, bs, mk, append_assoc]))
     rw [decide_eq_true hv] at hne
     clear hx
     go_wp2_with ((refine qAc rfl fun K hK => ?_; (with_reducible refine qCd (ops := #[]) (.tmp 24) (.tmp 26) ?_ u3 ((xs.take k).map qHm) _ _ HS ?_ ?_ ?_ ?_ (hrow.alloc _) (hnw.alloc _) ?_ ?_); (focus rfl); (focus rfl); rotate_left 1; (focus rfl); (focus simp only [World.alloc, Array.size_push]); (focus omega); intro v1 w1 hr1 hn1 hf1 ho1; refine hK _ _ ?_))
     exact ⟨⟨k + 1, by omega, by go_num, by rw [<- HT.out]; exact hr1, hn1⟩, by simp [intOf]; omega⟩
   have HS : Hid ((⟨#[97, 61]⟩ : ByteArray) ++ xs[k].key ++ ((⟨#[58]⟩ : ByteArray) ++ xs[k].val) = mk (qHm xs[k])) := hid (by unfold qHm; rw [if_neg hv]; (simp [cat, bs, mk, append_assoc]))
   rw [decide_eq_false hv] at hne
   have g1 := qCq ⟨#[97, 61]⟩ xs[k].key
   have g2 := qCq ⟨#[58]⟩ xs[k].val
   rw [show (⟨#[97, 61]⟩ : ByteArray).size = 2 from rfl] at g1
   rw [show (⟨#[58]⟩ : ByteArray).size = 1 from rfl] at g2
   clear hx
   go_wp2_with ((refine qAc rfl fun K hK => ?_; (with_reducible refine qCd (ops := #[]) (.tmp 24) (.tmp 26) ?_ u3 ((xs.take k).map qHm) _ _ HS ?_ ?_ ?_ ?_ (hrow.alloc _) (hnw.alloc _) ?_ ?_); (focus rfl); (focus rfl); rotate_left 1; (focus rfl); (focus simp only [World.alloc, Array.size_push]); (focus omega); intro v1 w1 hr1 hn1 hf1 ho1; refine hK _ _ ?_))
   exact ⟨⟨k + 1, by omega, by go_num, by rw [<- HT.out]; exact hr1, hn1⟩, by simp [intOf]; omega⟩
 rw [take_of_length_le (by omega)] at hrow
 go_wp2
 go_ret
 exact ⟨_, rfl, hrow, hnw⟩
end Go.Proofs.YtcepdjlknalmnaaGreatDoor
/- The reference's lines of times. -/
namespace Go.Proofs.YtcepdjlknalmnaaGreatDoor
open Tryz
open List (length_append flatMap_append take_of_length_le append_assoc)
open Lib (decDigits hid itoa)
open Go.RowKit
attribute [local go_sem ↓] Go.wp_at_zero Go.wp_at_succ
theorem qEb {ops : Array Oper} {o : Oper} {a : Act} {Q : Exit -> Act -> World -> Prop} {K : Act -> World -> Prop} {w0 W : World} (s x : Operand)
 (ho : o.op = .call { callee := .builtin .append, args := #[s, x], argTypes := #[25, 25] }) (v : Value) (ls : List (List UInt8)) (S : ByteArray) (l : List UInt8) (hS : Hid (S = mk l)) (hlen : Hid (l.length <= qBj)) (hs : a.eval s = v) (g : Nat) (hx : a.eval x = .slice (some ⟨g, 0, none⟩) 1 1) (hc : W.cell? ⟨g, 0, none⟩ = some (.string S))
 (HO : qB2 W w0.heap.size v ls) (hn : Nw w0 W) (hl : ls.length + 1 <= 1099511627776)
 (h : ∀ v1 w1, qB2 w1 w0.heap.size v1 (ls ++ [l]) -> Nw w0 w1 -> Fr (fun k => some k = v.ownBlock) W w1 -> (v1.ownBlock = v.ownBlock ∨ ∃ b, v1.ownBlock = some b /\ W.heap.size <= b) -> K (a.put o.dst v1) w1) :
 o.wp prog a W K Q := by
 obtain rfl := hS.out
 refine qBa (ops := ops) s x ho v _ ls [l] hs hx ⟨by simp, .inr ⟨by simp, g, 0, 1, rfl, by simp, fun k y hy => ?_⟩⟩ HO hn hl h
 have hk : k = 0 := by have := (List.getElem?_eq_some_iff.1 hy).1; simp at this; omega
 subst hk
 obtain rfl : mk l = y := by simpa using hy
 refine ⟨_, ⟨rfl, by unfold qAb; rw [qAy]; exact hlen.out⟩, fun j u hu => ?_⟩
 have hj : j = 0 := by have := (List.getElem?_eq_some_iff.1 hu).1; simp at this; omega
 subst hj
 obtain rfl : Value.string (mk l) = u := by simpa using hu
 simpa using hc
theorem Fr.cell {S : Nat -> Prop} {w w' : World} (h : Fr S w w') {p : Addr} {u : Value} (hs : ¬ S p.block) (hc : w.cell? p = some u) : w'.cell? p = some u :=
 (World.cell?_of_block (w := w) (h.block p.block (World.block_lt_of_cell? w p hc) hs)).trans hc
theorem qG6 {α β : Type} (f : α -> List β) {xs : List α} {k : Nat} (h : k < xs.length) : xs.flatMap f = (xs.take k).flatMap f ++ f xs[k] ++ (xs.drop (k + 1)).flatMap f := by
 conv => lhs; rw [<- List.take_append_drop k xs, flatMap_append, List.drop_eq_getElem_cons h, List.flatMap_cons, <- append_assoc]
theorem qDp {α β : Type} (f : α -> List β) {xs : List α} {k : Nat} (h : k < xs.length) : (xs.take k).flatMap f ++ f xs[k] = (xs.take (k + 1)).flatMap f := by
 rw [qAt h, flatMap_append]; simp
def timL (t : Tim) : List UInt8 := [116, 61] ++ (decDigits (Int.toNat t.start)) ++ [32] ++ (decDigits (Int.toNat t.stop))
def qBt (l : List Int) : List UInt8 := l.flatMap (fun o => [32] ++ (itoa o))
def qJr (r : Rep) : List UInt8 := [114, 61] ++ (itoa r.ivl) ++ [32] ++ (itoa r.dur) ++ qBt r.offs
def qDx (xs : List Tim) : List (List UInt8) := xs.flatMap (fun t => timL t :: t.reps.map qJr)
theorem qE6 {n : Int} (h : qAg .i64 n) : (mk ((itoa n))).size <= 21 := by
 have h0 : -9223372036854775808 <= n := h.1
 have h1 : n <= 9223372036854775807 := h.2
 unfold itoa
 split
 · have := qDf (u := n.natAbs) (by omega)
   rw [qAy] at this ⊢
   simp; omega
 have := qDf (u := n.toNat) (by omega)
 omega
theorem qGu {n : Int} (h : qAg .u64 n) : 0 <= n /\ n < 18446744073709551616 := by
 have h0 : (0 : Int) <= n := h.1
 have h1 : n <= 18446744073709551615 := h.2
 omega
theorem qFh {n : Int} (h : qAg .u64 n) : (mk ((decDigits (Int.toNat n)))).size <= 20 := qDf (by have := qGu h; omega)
theorem qLr (l : List Int) (k : Nat) : (qBt (l.take k)).length <= (qBt l).length := by
 conv => rhs; rw [<- List.take_append_drop k l]
 unfold qBt
 rw [flatMap_append, length_append]
 omega
set_option maxRecDepth 100000 in
set_option maxHeartbeats 1000000 in
theorem qNm (xs : List Tim) (v : Value) (w : World) (h : qCc.Sl w xs v) (hb : Lns (qDx xs)) :
 Calls prog 35 #[v] w fun e w' => ∃ v', e = .returned v' /\ qB2 w' w.heap.size v' (qDx xs) /\ Nw w w' := by
 obtain ⟨A, c, rfl⟩ := Ty.Sl_form h
 have hm := h.1
 have HB := hid hb
 clear hb
 go_enter func35, ntmps35
 go_wp2
 go_loopw [3, 13] (fun out i wr => ∃ k : Nat, k <= xs.length /\ i = .int .i64 k /\ qB2 wr w.heap.size out (qDx (xs.take k)) /\ Nw w wr) (fun out i _ => xs.length - (intOf i).toNat)
 case atStart => exact ⟨0, Nat.zero_le _, rfl, qB2.nil _ _, Nw.refl _⟩
 obtain ⟨k, hk, rfl, hrow, hnw⟩ := hrel
 by_cases hlt : k < xs.length
 · obtain ⟨b, o, rfl, ha⟩ := Ty.Sl_at h k hlt
   obtain ⟨cs, ⟨v1, rfl, hs0, hs1, h1⟩, hx⟩ := ha k _ (List.getElem?_eq_getElem hlt)
   obtain ⟨A1, n1, rfl⟩ := Ty.Sl_form h1
   have c0 := hnw.cell (hx 0 _ rfl)
   have c1 := hnw.cell (hx 1 _ rfl)
   have c2 := hnw.cell (hx 2 _ rfl)
   simp only [qCc, Nat.add_zero] at c0 c1 c2
   have hm1 := h1.1
   have hsplit := qG6 (fun t => timL t :: t.reps.map qJr) hlt
   have HT : Hid (qDx (xs.take k) ++ (timL xs[k] :: xs[k].reps.map qJr) = qDx (xs.take (k + 1))) := hid (qDp (fun t => timL t :: t.reps.map qJr) hlt)
   have hlen : (qDx (xs.take k)).length + xs[k].reps.length + 1 <= 1099511627776 := by
    have := HB.out.len
    unfold qDx at this ⊢
    rw [hsplit] at this
    simp only [length_append, List.length_cons, List.length_map] at this
    omega
   have HR : Hid (∀ r ∈ xs[k].reps, (qJr r).length <= qBj) := hid (fun r hr => HB.out.all _ (by
    unfold qDx; rw [hsplit]
    exact List.mem_append_left _ (List.mem_append_right _ (List.mem_cons_of_mem _ (List.mem_map_of_mem hr)))))
   clear hx ha hsplit
   obtain ⟨t, ht⟩ : ∃ t, t = xs[k] := ⟨_, rfl⟩
   rw [<- ht] at c0 c1 c2 hs0 hs1 h1 hm1 hlen HR HT
   clear ht
   go_wp2
   obtain ⟨wB, hwB⟩ : ∃ wB, wB = wr.alloc (.cells #[.int .u64 t.start, .int .u64 t.stop, .slice A1 t.reps.length n1] 74) := ⟨_, rfl⟩
   have g0 : wB.cell? ⟨wr.heap.size, 0, none⟩ = some (.int .u64 t.start) := by rw [hwB]; go_simp
   have g1 : wB.cell? ⟨wr.heap.size, 1, none⟩ = some (.int .u64 t.stop) := by rw [hwB]; go_simp
   have g2 : wB.cell? ⟨wr.heap.size, 2, none⟩ = some (.slice A1 t.reps.length n1) := by rw [hwB]; go_simp
   have hqB : Nw wr wB := by rw [hwB]; exact (Nw.refl wr).alloc _
   have hrowB := hrow.nw hqB
   have hnB := hnw.trans hqB
   have hne : ¬ some wr.heap.size = u3.ownBlock := fun e => Nat.lt_irrefl _ (Row.base hrow _ e.symm).2
   rw [<- hwB]
   clear hwB c0 c1 c2 hrow
   have s0 := qGu hs0
   have s1 := qGu hs1
   have d0 := qFh hs0
   have d1 := qFh hs1
   have e0 := qCq ⟨#[116, 61]⟩ (mk ((decDigits (Int.toNat t.start))))
   have e1 := qCq ((⟨#[116, 61]⟩ : ByteArray) ++ (mk ((decDigits (Int.toNat t.start))))) ⟨#[32]⟩
   rw [show (⟨#[116, 61]⟩ : ByteArray).size = 2 from rfl] at e0
   rw [show (⟨#[32]⟩ : ByteArray).size = 1 from rfl] at e1
   have HS : Hid ((⟨#[116, 61]⟩ : ByteArray) ++ mk ((decDigits (Int.toNat t.start))) ++ ⟨#[32]⟩ ++ mk ((decDigits (Int.toNat t.stop))) = mk (timL t)) := hid (by unfold timL; (simp [cat, bs, mk, append_assoc]))
   have HL : Hid ((timL t).length <= qBj) := hid (by
    rw [<- qAy, <- HS.out, qCq, e1, e0]; simp only [qBj]; omega)
   have y0 : ¬ 9223372036854775807 < 2 + (mk ((decDigits (Int.toNat t.start)))).size := by omega
   have y3 : ¬ 9223372036854775807 < 2 + (mk ((decDigits (Int.toNat t.start)))).size + 1 := by omega
   have y4 : ¬ 9223372036854775807 < 2 + (mk ((decDigits (Int.toNat t.start)))).size + 1 + (mk ((decDigits (Int.toNat t.stop)))).size := by omega
   go_region_held3 (fun w' => w'.cell? ⟨wr.heap.size, 0, none⟩ = some (.int .u64 t.start) /\ w'.cell? ⟨wr.heap.size, 1, none⟩ = some (.int .u64 t.stop)) (first | go_keep | exact ⟨Nw.cell (by (apply_rules [Nw.refl, Nw.drew, Nw.drewN, Nw.alloc])) g0, Nw.cell (by (apply_rules [Nw.refl, Nw.drew, Nw.drewN, Nw.alloc])) g1⟩)
    (first
     | (go_at_call 32; with_reducible refine (qDg t.start _ s0.1 s0.2).mono ?_; rintro e w1 ⟨rfl, hn1⟩; have hq1 : Nw wB w1 := Nw.trans (by (apply_rules [Nw.refl, Nw.drew, Nw.drewN, Nw.alloc])) hn1)
     | (go_at_call 32; with_reducible refine (qDg t.stop _ s1.1 s1.2).mono ?_; rintro e w2 ⟨rfl, hn2⟩; have hq2 : Nw wB w2 := Nw.trans (by (apply_rules [Nw.refl, Nw.drew, Nw.drewN, Nw.alloc])) hn2)
     | ((refine qA3 rfl ?_; (with_reducible refine qEb (ops := #[]) (.tmp 17) (.tmp 27) ?_ u3 (qDx (xs.take k)) _ _ HS HL ?_ ?_ ?_ ?_ (qB2.nw hrowB ?_) (Nw.trans hnB ?_) ?_ ?_); (focus rfl); (focus rfl); rotate_left 1; (focus rfl); (focus go_simp); (focus (apply_rules [Nw.refl, Nw.drew, Nw.drewN, Nw.alloc])); (focus (apply_rules [Nw.refl, Nw.drew, Nw.drewN, Nw.alloc])); (focus omega); intro v3 w3 hr3 hn3 hf3 ho3); have k0 := hf3.cell hne (Nw.cell (by (apply_rules [Nw.refl, Nw.drew, Nw.drewN, Nw.alloc])) g0); have k1 := hf3.cell hne (Nw.cell (by (apply_rules [Nw.refl, Nw.drew, Nw.drewN, Nw.alloc])) g1); have k2 := hf3.cell hne (Nw.cell (by (apply_rules [Nw.refl, Nw.drew, Nw.drewN, Nw.alloc])) g2)))
   clear HS HL y0 y3 y4 e0 e1 d0 d1 g0 g1 g2 hrowB hn1 hq1 hn2 hq2 hf3 ho3 hne
   obtain ⟨ls, hls⟩ : ∃ ls, ls = qDx (xs.take k) ++ [timL t] := ⟨_, rfl⟩
   rw [<- hls] at hr3
   have HT2 : Hid (ls ++ t.reps.map qJr = qDx (xs.take (k + 1))) := hid (by rw [hls, <- HT.out]; simp)
   have hlen2 : ls.length + t.reps.length <= 1099511627776 := by rw [hls]; simp; omega
   clear hls HT hlen
   go_wp2
   go_loopw [3, 32] (fun out i wr2 => ∃ j : Nat, j <= t.reps.length /\ i = .int .i64 j /\ qB2 wr2 w.heap.size out (ls ++ (t.reps.take j).map qJr) /\ Nw w wr2) (fun out i _ => t.reps.length - (intOf i).toNat)
   case atStart => exact ⟨0, Nat.zero_le _, rfl, by simpa using hr3, hn3⟩
   obtain ⟨j, hj, rfl, hrow, hnw2⟩ := hrel
   by_cases hlt2 : j < t.reps.length
   · obtain ⟨b1, o1, rfl, ha9⟩ := Ty.Sl_at h1 j hlt2
     obtain ⟨cs, ⟨v2, rfl, hs2, hs3, h2⟩, hx⟩ := ha9 j _ (List.getElem?_eq_getElem hlt2)
     obtain ⟨A2, n2, rfl⟩ := Ty.Sl_form h2
     have c0 := hnw2.cell (hx 0 _ rfl)
     have c1 := hnw2.cell (hx 1 _ rfl)
     have c2 := hnw2.cell (hx 2 _ rfl)
     simp only [qDc, Nat.add_zero] at c0 c1 c2
     have hr1 := HR.out _ (List.getElem_mem hlt2)
     have HT3 : Hid (ls ++ (t.reps.take j).map qJr ++ [qJr t.reps[j]] = ls ++ (t.reps.take (j + 1)).map qJr) := hid (by rw [append_assoc, qGt qJr hlt2])
     have hlen3 : (ls ++ (t.reps.take j).map qJr).length + 1 <= 1099511627776 := by simp; omega
     clear hx ha9
     obtain ⟨r, hr⟩ : ∃ r, r = t.reps[j] := ⟨_, rfl⟩
     rw [<- hr] at c0 c1 c2 hs2 hs3 h2 hr1 HT3
     clear hr
     have hm2 := h2.1
     go_wp2
     obtain ⟨wC, hwC⟩ : ∃ wC, wC = wr.alloc (.cells #[.int .i64 r.ivl, .int .i64 r.dur, .slice A2 r.offs.length n2] 78) := ⟨_, rfl⟩
     have g0 : wC.cell? ⟨wr.heap.size, 0, none⟩ = some (.int .i64 r.ivl) := by rw [hwC]; go_simp
     have g1 : wC.cell? ⟨wr.heap.size, 1, none⟩ = some (.int .i64 r.dur) := by rw [hwC]; go_simp
     have g2 : wC.cell? ⟨wr.heap.size, 2, none⟩ = some (.slice A2 r.offs.length n2) := by rw [hwC]; go_simp
     have hqC : Nw wr wC := by rw [hwC]; exact (Nw.refl wr).alloc _
     have hrowC := hrow.nw hqC
     have hnC := hnw2.trans hqC
     rw [<- hwC]
     clear hwC c0 c1 c2 hrow
     have d0 := qE6 hs2
     have d1 := qE6 hs3
     have y0 : ¬ 9223372036854775807 < 2 + (mk ((itoa r.ivl))).size := by omega
     have y3 : ¬ 9223372036854775807 < 2 + (mk ((itoa r.ivl))).size + 1 := by omega
     have y4 : ¬ 9223372036854775807 < 2 + (mk ((itoa r.ivl))).size + 1 + (mk ((itoa r.dur))).size := by omega
     go_region_held3 (fun w' => w'.cell? ⟨wr.heap.size, 0, none⟩ = some (.int .i64 r.ivl) /\ w'.cell? ⟨wr.heap.size, 1, none⟩ = some (.int .i64 r.dur)) (first | go_keep | exact ⟨Nw.cell (by (apply_rules [Nw.refl, Nw.drew, Nw.drewN, Nw.alloc])) g0, Nw.cell (by (apply_rules [Nw.refl, Nw.drew, Nw.drewN, Nw.alloc])) g1⟩)
      (first
       | (go_at_call 31; with_reducible refine (qD2 r.ivl _ hs2).mono ?_; rintro e w4 ⟨rfl, hn4⟩; have hq4 : Nw wC w4 := Nw.trans (by (apply_rules [Nw.refl, Nw.drew, Nw.drewN, Nw.alloc])) hn4)
       | (go_at_call 31; with_reducible refine (qD2 r.dur _ hs3).mono ?_; rintro e w5 ⟨rfl, hn5⟩; have hq5 : Nw wC w5 := Nw.trans (by (apply_rules [Nw.refl, Nw.drew, Nw.drewN, Nw.alloc])) hn5))
     have k2 := Nw.cell hq5 g2
     have hn5' := hnC.trans hq5
     obtain ⟨bl, hbl⟩ : ∃ bl, bl = [114, 61] ++ (itoa r.ivl) ++ [32] ++ (itoa r.dur) := ⟨_, rfl⟩
     have HS0 : Hid ((⟨#[114, 61]⟩ : ByteArray) ++ mk ((itoa r.ivl)) ++ ⟨#[32]⟩ ++ mk ((itoa r.dur)) = mk (bl ++ qBt (r.offs.take 0))) := hid (by rw [hbl]; simp only [List.take_zero, qBt, List.flatMap_nil, List.append_nil]; (simp [cat, bs, mk, append_assoc]))
     have hrL : bl ++ qBt r.offs = qJr r := by rw [hbl]; rfl
     have HRL := hid hrL
     have hlen4 : bl.length + (qBt r.offs).length <= qBj := by rw [<- length_append, hrL]; exact hr1
     clear hbl hrL g0 g1 g2 y0 y3 y4 d0 d1 hr1
     go_wp2
     go_loopw [8, 48] (fun s i wr => ∃ l : Nat, l <= r.offs.length /\ i = .int .i64 l /\ s = .string (mk (bl ++ qBt (r.offs.take l))) /\ Nw wC wr) (fun s i _ => r.offs.length - (intOf i).toNat)
     case atStart => exact ⟨0, Nat.zero_le _, rfl, by rw [HS0.out], hq5⟩
     obtain ⟨l, hl, rfl, rfl, hnw3⟩ := hrel
     by_cases hlt3 : l < r.offs.length
     · obtain ⟨b2, o2, rfl, ha2⟩ := Ty.Sl_at h2 l hlt3
       obtain ⟨cs, ⟨rfl, hwf⟩, hx⟩ := ha2 l _ (List.getElem?_eq_getElem hlt3)
       have hx := (hnC.trans hnw3).cell (hx 0 _ rfl)
       simp only [tyI, qCn, Ty.flat, Nat.mul_one, Nat.add_zero] at hx
       have d0 := qE6 hwf
       have HS1 : Hid (mk (bl ++ qBt (r.offs.take l)) ++ ((⟨#[32]⟩ : ByteArray) ++ mk ((itoa r.offs[l]))) = mk (bl ++ qBt (r.offs.take (l + 1)))) := hid (by
        rw [show qBt (r.offs.take (l + 1)) = qBt (r.offs.take l) ++ ([32] ++ (itoa r.offs[l])) from (qDp (fun o => [32] ++ (itoa o)) hlt3).symm]
        (simp [cat, bs, mk, append_assoc]))
       have e0 := qCq ⟨#[32]⟩ (mk ((itoa r.offs[l])))
       rw [show (⟨#[32]⟩ : ByteArray).size = 1 from rfl] at e0
       have e1 := qAy (bl ++ qBt (r.offs.take l))
       have e2 := qLr r.offs l
       rw [length_append] at e1
       simp only [qBj] at hlen4
       go_wp2_with (go_at_call 31; with_reducible refine (qD2 r.offs[l] _ hwf).mono ?_; rintro e w6 ⟨rfl, hn6⟩)
       exact ⟨⟨l + 1, by omega, by go_num, by rw [HS1.out], hnw3.trans hn6⟩, by simp [intOf]; omega⟩
     rw [take_of_length_le (by omega), HRL.out]
     have HS : Hid (mk (qJr r) = mk (qJr r)) := hid rfl
     have hrow6 := hrowC.nw hnw3
     have hn6 := hnC.trans hnw3
     go_wp2_with ((refine qAc rfl fun K hK => ?_; (with_reducible refine qCd (ops := #[]) (.tmp 58) (.tmp 60) ?_ u3 (ls ++ (t.reps.take j).map qJr) _ _ HS ?_ ?_ ?_ ?_ hrow6 hn6 ?_ ?_); (focus rfl); (focus rfl); rotate_left 1; (focus rfl); (focus simp only [World.alloc, Array.size_push]); (focus omega); intro v1 w9 hr9 hn9 hf9 ho9; refine hK _ _ ?_))
     exact ⟨⟨j + 1, by omega, by go_num, by rw [<- HT3.out]; exact hr9, hn9⟩, by simp [intOf]; omega⟩
   rw [take_of_length_le (by omega)] at hrow
   go_wp2
   exact ⟨⟨k + 1, by omega, by go_num, by rw [<- HT2.out]; exact hrow, hnw2⟩, by simp [intOf]; omega⟩
 rw [take_of_length_le (by omega)] at hrow
 go_wp2
 go_ret
 exact ⟨_, rfl, hrow, hnw⟩
end Go.Proofs.YtcepdjlknalmnaaGreatDoor
/- The reference's text of lines, and whether a session is bare. -/
namespace Go.Proofs.YtcepdjlknalmnaaGreatDoor
open Tryz
open List (length_append flatMap_append take_of_length_le append_assoc)
open Lib (decDigits hid itoa)
open Go.RowKit
def qAm (e : List UInt8) (ls : List (List UInt8)) : List UInt8 := ls.flatMap (fun l => l ++ e)
end Go.Proofs.YtcepdjlknalmnaaGreatDoor

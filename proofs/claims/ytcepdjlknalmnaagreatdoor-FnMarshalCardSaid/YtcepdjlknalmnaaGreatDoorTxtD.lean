/- The reference's texts: Decimal, Signed, joined, text. -/
import Derived.Test.YtcepdjlknalmnaaGreatDoorSpecB
import Derived.Test.YtcepdjlknalmnaaGreatDoorSpecD
import Derived.Lib.ItoaNum
import Derived.Lib.ItoaLen
import Derived.Lib.SmallJoins
import Derived.Deep.RegionHeld3
import Derived.Deep.DrawnRows
namespace Go.Proofs.YtcepdjlknalmnaaGreatDoor
open Go.RowKit
set_option linter.unusedSimpArgs false
set_option linter.unusedVariables false
def mk (l : List UInt8) : ByteArray := ⟨l.toArray⟩
theorem mk_list (l : List UInt8) : (mk l).data.toList = l := rfl
theorem mk_size (l : List UInt8) : (mk l).size = l.length := by rw [← len_list, mk_list]
theorem mk_of (s : ByteArray) : mk s.data.toList = s := rfl
theorem mk_append (a b : List UInt8) : mk a ++ mk b = mk (a ++ b) := by
 rw [← mk_of (mk a ++ mk b), Go.Joins.data_append]; rfl
theorem str_append (s t : ByteArray) : s ++ t = mk (s.data.toList ++ t.data.toList) := by
 rw [← mk_of (s ++ t), Go.Joins.data_append]
theorem ret_str {a b : ByteArray} (h : a = b) : Ending.returned (.string a) = .returned (.string b) := by rw [h]
set_option maxRecDepth 100000 in
theorem spec_Decimal1 (n : Int) (w : World) (h1 : 0 ≤ n) (h2 : n < 10) :
 Calls Tryz.prog 32 #[.int .u64 n] w fun e w' => e = .returned (.string (mk (Lib.decDigits n.toNat))) ∧ Nw w w' := by
 have hk : (convert 128 9 (.slice (some ⟨w.heap.size, 0, none⟩) 1 1)).run Tryz.prog (w.alloc (.cells #[.int .u8 (48 + n)] 5)) = .ok (.string (strOfNums [48 + n])) (w.alloc (.cells #[.int .u8 (48 + n)] 5)) := by
  refine run_convert_bytes_arg (P := Tryz.prog) (w.alloc (.cells #[.int .u8 (48 + n)] 5)) 128 5 Tryz.underlying128 Tryz.underlying5 w.heap.size 0 1 1 [48 + n] rfl (fun i hi => ?_) 9 Tryz.underlying9
  obtain rfl : i = 0 := by omega
  simp
 have HV : Hid (strOfNums [48 + n] = mk (Lib.decDigits n.toNat)) := Lib.hid (by
  rw [Lib.decDigits_one (by omega)]
  simp only [strOfNums, List.map_cons, List.map_nil, mk]
  rw [show (48 + n).toNat = 48 + n.toNat by omega])
 go_enter Tryz.func32, Tryz.ntmps32
 go_wp2
 go_ret
 exact ⟨ret_str HV.out, (Nw.refl w).alloc _⟩
theorem dec_step {u : Nat} (h : ¬ u < 10) : Lib.decDigits u = Lib.decDigits (u / 10) ++ Lib.decDigits (u % 10) := by
 rw [Lib.decDigits_one (i := u % 10) (by omega)]
 conv => lhs; rw [Lib.decDigits]
 rw [dif_neg h]
theorem dec_len {u : Nat} (h : u < 18446744073709551616) : (mk (Lib.decDigits u)).size ≤ 20 := by
 rw [mk_size, Lib.decDigits_length]
 exact Lib.nDigits_le20 u h
theorem spec_Decimal (k : Nat) : ∀ (n : Int) (w : World), n < (10 : Int) ^ k → 0 ≤ n → n < 18446744073709551616 →
 Calls Tryz.prog 32 #[.int .u64 n] w fun e w' => e = .returned (.string (mk (Lib.decDigits n.toNat))) ∧ Nw w w' := by
 induction k with
 | zero =>
  intro n w h1 h2 h3
  exact spec_Decimal1 n w h2 (by simp at h1; omega)
 | succ k ih =>
  intro n w h1 h2 h3
  by_cases hlt : n < 10
  · exact spec_Decimal1 n w h2 hlt
  · have hq : n / 10 < (10 : Int) ^ k := by
     rw [Int.pow_succ] at h1
     generalize (10 : Int) ^ k = p at h1 ⊢
     omega
    have HI := Lib.hid ih
    clear ih h1
    have z1 := dec_len (u := (n / 10).toNat) (by omega)
    have z2 := dec_len (u := (n % 10).toNat) (by omega)
    have HV : Hid (Lib.decDigits (n / 10).toNat ++ Lib.decDigits (n % 10).toNat = Lib.decDigits n.toNat) := Lib.hid (by
     rw [dec_step (u := n.toNat) (by omega), show (n / 10).toNat = n.toNat / 10 by omega, show (n % 10).toNat = n.toNat % 10 by omega])
    have HQ := Lib.hid hq
    clear hq
    go_enter Tryz.func32, Tryz.ntmps32
    go_wp2_with fail
    refine (HI.out (n / 10) w HQ.out (by omega) (by omega)).mono ?_
    rintro e w1 ⟨rfl, hn1⟩
    go_wp2_with fail
    refine (spec_Decimal1 (n % 10) w1 (by omega) (by omega)).mono ?_
    rintro e w2 ⟨rfl, hn2⟩
    go_wp2_with fail
    go_ret
    exact ⟨ret_str (by rw [mk_append, HV.out]), hn1.trans hn2⟩
theorem dec_any (n : Int) (w : World) (h0 : 0 ≤ n) (h1 : n < 18446744073709551616) : Calls Tryz.prog 32 #[.int .u64 n] w fun e w' => e = .returned (.string (mk (Lib.decDigits n.toNat))) ∧ Nw w w' :=
 spec_Decimal 20 n w (by omega) h0 h1
set_option maxRecDepth 100000 in
theorem spec_Signed (n : Int) (w : World) (hn : WfInt .i64 n) :
 Calls Tryz.prog 31 #[.int .i64 n] w fun e w' => e = .returned (.string (mk (Lib.itoa n))) ∧ Nw w w' := by
 have h0 : -9223372036854775808 ≤ n := hn.1
 have h1 : n ≤ 9223372036854775807 := hn.2
 clear hn
 by_cases hm : n = -9223372036854775808
 · subst hm
   clear h0 h1
   obtain ⟨N, hN⟩ : ∃ N : Int, N = 9223372036854775808 := ⟨_, rfl⟩
   have HV : Hid (Lib.itoa (-9223372036854775808) = 45 :: Lib.decDigits N.toNat) := Lib.hid (by unfold Lib.itoa; rw [if_pos (by decide), hN]; rfl)
   have z1 := dec_len (u := N.toNat) (by omega)
   go_enter Tryz.func31, Tryz.ntmps31
   go_wp2_with fail
   rw [show IntKind.u64.wrap (wrap64 9223372036854775808) = N by rw [hN]; kernel_rfl]
   have o1 : 0 ≤ N := by omega
   have o2 : N < 18446744073709551616 := by omega
   clear hN
   refine (dec_any N w o1 o2).mono ?_
   rintro e w1 ⟨rfl, hn1⟩
   go_wp2_with fail
   go_ret
   exact ⟨ret_str (by rw [HV.out, show (45 :: Lib.decDigits N.toNat) = [45] ++ Lib.decDigits N.toNat by rfl, ← mk_append]; rfl), hn1⟩
 by_cases hn : n < 0
 · have z1 := dec_len (u := (-n).toNat) (by omega)
   have HV : Hid (Lib.itoa n = 45 :: Lib.decDigits (-n).toNat) := Lib.hid (by unfold Lib.itoa; rw [if_pos hn, show n.natAbs = (-n).toNat by omega])
   go_enter Tryz.func31, Tryz.ntmps31
   go_wp2_with fail
   refine (dec_any (-n) w (by omega) (by omega)).mono ?_
   rintro e w1 ⟨rfl, hn1⟩
   go_wp2_with fail
   go_ret
   exact ⟨ret_str (by rw [HV.out, show (45 :: Lib.decDigits (-n).toNat) = [45] ++ Lib.decDigits (-n).toNat by rfl, ← mk_append]; rfl), hn1⟩
 · have HV : Hid (Lib.itoa n = Lib.decDigits n.toNat) := Lib.hid (by unfold Lib.itoa; rw [if_neg hn])
   go_enter Tryz.func31, Tryz.ntmps31
   go_wp2_with fail
   refine (dec_any n w (by omega) (by omega)).mono ?_
   rintro e w1 ⟨rfl, hn1⟩
   go_wp2_with fail
   go_ret
   exact ⟨ret_str (by rw [HV.out]), hn1⟩
end Go.Proofs.YtcepdjlknalmnaaGreatDoor
/- The reference's lists of lines: joined, text, attributes. -/
namespace Go.Proofs.YtcepdjlknalmnaaGreatDoor
open Go.RowKit
set_option linter.unusedSimpArgs false
set_option linter.unusedVariables false
abbrev bs (s : ByteArray) : List UInt8 := s.data.toList
theorem cat (s t : ByteArray) : s ++ t = mk (bs s ++ bs t) := str_append s t
theorem cat_size (s t : ByteArray) : (s ++ t).size = s.size + t.size := by rw [← len_list, Go.Joins.data_append, List.length_append, len_list, len_list]
theorem bs_len (s : ByteArray) : (bs s).length = s.size := len_list s
def joinB (sep : List UInt8) : List ByteArray → List UInt8
 | [] => []
 | x :: l => bs x ++ l.flatMap (fun y => sep ++ bs y)
theorem join_snoc (sep : List UInt8) (l : List ByteArray) (y : ByteArray) : joinB sep (l ++ [y]) = if l.length = 0 then bs y else joinB sep l ++ (sep ++ bs y) := by
 match l with
 | [] => simp [joinB]
 | x :: l => simp [joinB, List.flatMap_append]
theorem take_snoc {α : Type} {xs : List α} {k : Nat} (h : k < xs.length) : xs.take (k + 1) = xs.take k ++ [xs[k]] := by
 rw [List.take_add_one, List.getElem?_eq_getElem h]; rfl
theorem map_snoc {α β : Type} {xs : List α} {k : Nat} (f : α → β) (h : k < xs.length) : (xs.take k).map f ++ [f xs[k]] = (xs.take (k + 1)).map f := by
 rw [take_snoc h, List.map_append]; rfl
theorem join_le (sep : List UInt8) (l m : List ByteArray) : (joinB sep l).length ≤ (joinB sep (l ++ m)).length := by
 match l with
 | [] => simp [joinB]
 | x :: l => simp [joinB, List.flatMap_append]
theorem join_take_le (sep : List UInt8) (l : List ByteArray) (k : Nat) : (joinB sep (l.take k)).length ≤ (joinB sep l).length := by
 conv => rhs; rw [← List.take_append_drop k l]
 exact join_le sep _ _
set_option maxRecDepth 100000 in
theorem spec_joined (xs : List ByteArray) (v : Value) (s : ByteArray) (w : World) (h : tyStr.Sl w xs v) (hb : (joinB (bs s) xs).length ≤ strMax) :
 Calls Tryz.prog 36 #[v, .string s] w fun e w' => e = .returned (.string (mk (joinB (bs s) xs))) ∧ Nw w w' := by
 obtain ⟨A, c, rfl⟩ := Ty.Sl_form h
 have hm := h.1
 go_enter Tryz.func36, Tryz.ntmps36
 go_wp2
 go_loop [5, 10] (fun out i => ∃ k : Nat, k ≤ xs.length ∧ i = .int .i64 k ∧ out = .string (mk (joinB (bs s) (xs.take k)))) (fun out i => xs.length - (intOf i).toNat)
 case atStart => exact ⟨0, Nat.zero_le _, rfl, rfl⟩
 case round =>
  obtain ⟨k, hk, rfl, rfl⟩ := hrel
  by_cases hlt : k < xs.length
  · obtain ⟨b, o, rfl, ha⟩ := Ty.Sl_at h k hlt
    obtain ⟨cs, ⟨rfl, hwf⟩, hx⟩ := ha k _ (List.getElem?_eq_getElem hlt)
    have hx := hx 0 _ rfl
    simp only [tyStr, Ty.flat, Nat.mul_one, Nat.add_zero] at hx
    have hj := join_snoc (bs s) (xs.take k) xs[k]
    rw [← take_snoc hlt] at hj
    have hle := join_take_le (bs s) xs (k + 1)
    have hsz := mk_size (joinB (bs s) (xs.take k))
    have hl0 : (xs.take k).length = k := by simp; omega
    by_cases hk0 : (0 : Int) < (k : Int)
    · rw [if_neg (by omega)] at hj
      rw [hj] at hle
      simp only [List.length_append, bs_len] at hle
      have g1 : (mk (joinB (bs s) (xs.take k))).size + s.size + xs[k].size ≤ strMax := by omega
      have g2 : (mk (joinB (bs s) (xs.take k)) ++ s).size = (mk (joinB (bs s) (xs.take k))).size + s.size := by rw [← len_list, Go.Joins.data_append, List.length_append, len_list, len_list]
      simp only [strMax] at g1
      have HJ : Hid (mk (joinB (bs s) (xs.take k)) ++ s ++ xs[k] = mk (joinB (bs s) (xs.take (k + 1)))) := Lib.hid (by
       rw [hj, ← mk_of s, mk_append, ← mk_of xs[k], mk_append]; simp [mk_list])
      clear hj hle hsz hb hl0
      go_wp2
      exact ⟨⟨k + 1, by omega, by go_num, by rw [HJ.out]⟩, by simp [intOf]; omega⟩
    · rw [if_pos (by omega)] at hj
      have h0 : k = 0 := by omega
      subst h0
      have hx : w.cell? ⟨b, o, none⟩ = some (.string xs[0]) := by simpa using hx
      have HJ : Hid (mk (joinB (bs s) []) ++ xs[0] = mk (joinB (bs s) (xs.take (0 + 1)))) := Lib.hid (by
       rw [hj, ← mk_of xs[0], mk_append]; simp [joinB, mk_list])
      have hz : (mk (joinB (bs s) [])).size = 0 := by rw [mk_size]; simp [joinB]
      have hwf2 : xs[0].size ≤ 1152921504606846976 := hwf
      clear hj hle hsz hb hl0
      go_wp2
      exact ⟨⟨1, by omega, by go_num, by rw [HJ.out]⟩, by simp [intOf]; omega⟩
  · rw [List.take_of_length_le (by omega)]
    go_wp2
    go_ret
    exact ⟨rfl, Nw.refl _⟩
def RowS (w : World) (B : Nat) (v : Value) (ls : List (List UInt8)) : Prop := Row w B 9 1 v ((ls.map mk).map (fun s => [Value.string s]))
structure Lns (ls : List (List UInt8)) : Prop where
 len : ls.length ≤ 1099511627776
 all : ∀ l ∈ ls, l.length ≤ strMax
theorem Lns.left {a b : List (List UInt8)} (h : Lns (a ++ b)) : Lns a := ⟨by have := h.len; simp at this; omega, fun l hl => h.all l (List.mem_append_left _ hl)⟩
theorem Lns.right {a b : List (List UInt8)} (h : Lns (a ++ b)) : Lns b := ⟨by have := h.len; simp at this; omega, fun l hl => h.all l (List.mem_append_right _ hl)⟩
theorem RowS.sl {w : World} {B : Nat} {v : Value} {ls : List (List UInt8)} (h : RowS w B v ls) (hl : Lns ls) : tyStr.Sl w (ls.map mk) v :=
 Row.slFlat (enc := fun s => [Value.string s]) (wf := WfStr) h (by have := hl.len; simp; omega) (fun x hx => by
  obtain ⟨l, hl1, rfl⟩ := List.mem_map.1 hx
  unfold WfStr
  rw [mk_size]
  exact hl.all l hl1)
theorem RowS.form {w : World} {B : Nat} {v : Value} {ls : List (List UInt8)} (h : RowS w B v ls) : ∃ A c, v = .slice A ls.length c ∧ ls.length ≤ c := by
 obtain ⟨A, c, h1, h2⟩ := Row.form h
 exact ⟨A, c, by rw [h1]; simp, by simpa using h2⟩
theorem RowS.nil (w : World) (B : Nat) : RowS w B (.slice none 0 0) [] := Row.nil _ _ _ _
theorem inf9 : (Tryz.prog.info? 9).map (fun i => (i.zero, i.size, i.bytes)) = some (some (.string ⟨#[]⟩), 1, 16) := by kernel_rfl
theorem news_map {W : World} {ys : List ByteArray} : ∀ {news : List (List Value)}, news.length = ys.length → (∀ (k : Nat) y r, ys[k]? = some y → news[k]? = some r → tyStr.rel W y r) → news = ys.map (fun s => [Value.string s]) := by
 intro news h1 h2
 apply List.ext_getElem?
 intro k
 rcases Nat.lt_or_ge k ys.length with hk | hk
 · have := (h2 k _ _ (List.getElem?_eq_getElem hk) (List.getElem?_eq_getElem (by omega))).1
   rw [List.getElem?_eq_getElem (by omega), this]
   simp [hk]
 · rw [List.getElem?_eq_none (by omega), List.getElem?_eq_none (by simp; omega)]
theorem rowS_appends {ops : Array Oper} {o : Oper} {a : Act} {Q : Exit → Act → World → Prop} {K : Act → World → Prop} {w0 W : World} (s x : Operand)
 (ho : o.op = .call { callee := .builtin .append, args := #[s, x], argTypes := #[25, 25] }) (v u : Value) (ls ms : List (List UInt8)) (hs : a.eval s = v) (hx : a.eval x = u)
 (hu : tyStr.Sl W (ms.map mk) u) (HO : RowS W w0.heap.size v ls) (hn : Nw w0 W) (hl : ls.length + ms.length ≤ 1099511627776)
 (h : ∀ v1 w1, RowS w1 w0.heap.size v1 (ls ++ ms) → Nw w0 w1 → Fr (fun k => some k = v.ownBlock) W w1 → (v1.ownBlock = v.ownBlock ∨ ∃ b, v1.ownBlock = some b ∧ W.heap.size ≤ b) → K (a.put o.dst v1) w1) :
 o.wp Tryz.prog a W K Q := by
 refine row_appendsSl (T := tyStr) w0.heap.size s x 25 9 (.string ⟨#[]⟩) 16 ho Tryz.underlying25 inf9 rfl (by decide) v u _ (ms.map mk) hs hx hu HO hn.size (by simp; omega) (by simp; omega) ?_
 intro v1 w1 news h1 h2 h3 h4 h5
 rw [news_map h1 h2, ← List.map_append, ← List.map_append] at h3
 exact h v1 w1 h3 (hn.frIn h4 (fun i hi => (HO.base i hi.symm).1)) h4 h5
theorem rowS_append {ops : Array Oper} {o : Oper} {a : Act} {Q : Exit → Act → World → Prop} {K : Act → World → Prop} {w0 W : World} (s x : Operand)
 (ho : o.op = .call { callee := .builtin .append, args := #[s, x], argTypes := #[25, 25] }) (v : Value) (ls : List (List UInt8)) (S : ByteArray) (l : List UInt8) (hS : Hid (S = mk l)) (hs : a.eval s = v) (g : Nat) (hx : a.eval x = .slice (some ⟨g, 0, none⟩) 1 1) (hg : g = W.heap.size)
 (HO : RowS W w0.heap.size v ls) (hn : Nw w0 W) (hl : ls.length + 1 ≤ 1099511627776)
 (h : ∀ v1 w1, RowS w1 w0.heap.size v1 (ls ++ [l]) → Nw w0 w1 → Fr (fun k => some k = v.ownBlock) W w1 → (v1.ownBlock = v.ownBlock ∨ ∃ b, v1.ownBlock = some b ∧ W.heap.size ≤ b) → K (a.put o.dst v1) w1) :
 o.wp Tryz.prog a (W.alloc (.cells #[.string S] 9)) K Q := by
 obtain rfl := hS.out
 subst hg
 refine row_append w0.heap.size s x 25 9 1 (.string ⟨#[]⟩) 16 ho Tryz.underlying25 inf9 rfl (by decide) v _ [.string (mk l)] hs hx rfl (fun u hu => by rw [List.mem_singleton.1 hu]; rfl) HO hn.size (by simp; omega) (by simp; omega) ?_
 intro v1 w1 h3 h4 h5
 exact h v1 w1 (by unfold RowS; simpa using h3) (hn.frIn h4 (fun i hi => (HO.base i hi.symm).1)) h4 h5
def textB (s : ByteArray) (xs : List ByteArray) : List (List UInt8) := xs.map (fun x => bs s ++ [61] ++ bs x)
set_option maxRecDepth 100000 in
theorem spec_text (s : ByteArray) (xs : List ByteArray) (v : Value) (w : World) (h : tyStr.Sl w xs v) (hb : Lns (textB s xs)) (hs : s.size ≤ 10) :
 Calls Tryz.prog 33 #[.string s, v] w fun e w' => ∃ v', e = .returned v' ∧ RowS w' w.heap.size v' (textB s xs) ∧ Nw w w' := by
 obtain ⟨A, c, rfl⟩ := Ty.Sl_form h
 have hm := h.1
 have hlen : xs.length ≤ 1099511627776 := by have := hb.len; simpa [textB] using this
 go_enter Tryz.func33, Tryz.ntmps33
 go_wp2
 go_loopw [5, 10] (fun out i wr => ∃ k : Nat, k ≤ xs.length ∧ i = .int .i64 k ∧ RowS wr w.heap.size out (textB s (xs.take k)) ∧ Nw w wr) (fun out i _ => xs.length - (intOf i).toNat)
 case atStart => exact ⟨0, Nat.zero_le _, rfl, RowS.nil _ _, Nw.refl _⟩
 case round =>
  obtain ⟨k, hk, rfl, hrow, hnw⟩ := hrel
  by_cases hlt : k < xs.length
  · obtain ⟨b, o, rfl, ha⟩ := Ty.Sl_at h k hlt
    obtain ⟨cs, ⟨rfl, hwf⟩, hx⟩ := Ty.At_loc hnw.block ha k _ (List.getElem?_eq_getElem hlt)
    have hx := hx 0 _ rfl
    simp only [tyStr, Ty.flat, Nat.mul_one, Nat.add_zero] at hx
    have hwf2 : xs[k].size ≤ 1152921504606846976 := hwf
    have HS : Hid (s ++ ⟨#[61]⟩ ++ xs[k] = mk (bs s ++ [61] ++ bs xs[k])) := Lib.hid (by (simp [cat, bs, mk, List.append_assoc]))
    have HT : Hid (textB s (xs.take k) ++ [bs s ++ [61] ++ bs xs[k]] = textB s (xs.take (k + 1))) := Lib.hid (map_snoc _ hlt)
    have g2 : (s ++ ⟨#[61]⟩).size = s.size + 1 := cat_size _ _
    have hk2 : (textB s (xs.take k)).length ≤ k := by simp [textB]; omega
    go_wp2_with (first | (refine at_list rfl fun K hK => ?_; refine rowS_append (ops := #[]) (.tmp 14) (.tmp 19) rfl u5 (textB s (xs.take k)) _ _ HS rfl _ rfl rfl hrow hnw (by omega) ?_; intro v1 w1 hr1 hn1 _ _; refine hK _ _ ?_))
    exact ⟨⟨k + 1, by omega, by go_num, by rw [← HT.out]; exact hr1, hn1⟩, by simp [intOf]; omega⟩
  · rw [List.take_of_length_le (by omega)] at hrow
    go_wp2
    go_ret
    exact ⟨_, rfl, hrow, hnw⟩
end Go.Proofs.YtcepdjlknalmnaaGreatDoor
/- The reference's lines of attributes and of times. -/
namespace Go.Proofs.YtcepdjlknalmnaaGreatDoor
open Go.RowKit
set_option linter.unusedSimpArgs false
set_option linter.unusedVariables false
attribute [local go_sem ↓] Go.wp_at_zero Go.wp_at_succ
def attL (a : Att) : List UInt8 := [97, 61] ++ bs a.key ++ (if a.val.size = 0 then [] else [58] ++ bs a.val)
theorem RowS.alloc {w : World} {B : Nat} {v : Value} {ls : List (List UInt8)} (h : RowS w B v ls) (o : Obj) : RowS (w.alloc o) B v ls := Row.alloc h o
theorem RowS.nw {w w1 : World} {B : Nat} {v : Value} {ls : List (List UInt8)} (h : RowS w B v ls) (hn : Nw w w1) : RowS w1 B v ls := Row.nw h hn
theorem is_empty (s : ByteArray) : s.toList.isEmpty = decide (s.size = 0) := by
 rw [← len_list, ByteArray.toList_eq]
 cases h : s.data.toList <;> simp
set_option maxRecDepth 100000 in
theorem spec_marked (xs : List Att) (v : Value) (w : World) (h : tyAtt.Sl w xs v) (hb : Lns (xs.map attL)) :
 Calls Tryz.prog 37 #[v] w fun e w' => ∃ v', e = .returned v' ∧ RowS w' w.heap.size v' (xs.map attL) ∧ Nw w w' := by
 obtain ⟨A, c, rfl⟩ := Ty.Sl_form h
 have hm := h.1
 have hlen : xs.length ≤ 1099511627776 := by have := hb.len; simpa using this
 go_enter Tryz.func37, Tryz.ntmps37
 go_wp2
 go_loopw [3, 9] (fun out i wr => ∃ k : Nat, k ≤ xs.length ∧ i = .int .i64 k ∧ RowS wr w.heap.size out ((xs.take k).map attL) ∧ Nw w wr) (fun out i _ => xs.length - (intOf i).toNat)
 case atStart => exact ⟨0, Nat.zero_le _, rfl, RowS.nil _ _, Nw.refl _⟩
 case round =>
  obtain ⟨k, hk, rfl, hrow, hnw⟩ := hrel
  by_cases hlt : k < xs.length
  · obtain ⟨b, o, rfl, ha⟩ := Ty.Sl_at h k hlt
    obtain ⟨cs, ⟨rfl, hwf, hwf'⟩, hx⟩ := Ty.At_loc hnw.block ha k _ (List.getElem?_eq_getElem hlt)
    have c0 := hx 0 _ rfl
    have c1 := hx 1 _ rfl
    simp only [tyAtt, Ty.flat, Nat.add_zero] at c0 c1
    have q1 : xs[k].key.size ≤ 1152921504606846976 := hwf
    have q2 : xs[k].val.size ≤ 1152921504606846976 := hwf'
    have HT : Hid ((xs.take k).map attL ++ [attL xs[k]] = (xs.take (k + 1)).map attL) := Lib.hid (map_snoc _ hlt)
    have hk2 : ((xs.take k).map attL).length ≤ k := by simp; omega
    have hne := is_empty xs[k].val
    by_cases hv : xs[k].val.size = 0
    · have HS : Hid ((⟨#[97, 61]⟩ : ByteArray) ++ xs[k].key = mk (attL xs[k])) := Lib.hid (by unfold attL; rw [if_pos hv]; (simp [cat, bs, mk, List.append_assoc]))
      rw [decide_eq_true hv] at hne
      clear hx
      go_wp2_with ((refine at_list rfl fun K hK => ?_; (with_reducible refine rowS_append (ops := #[]) (.tmp 24) (.tmp 26) ?_ u3 ((xs.take k).map attL) _ _ HS ?_ ?_ ?_ ?_ (hrow.alloc _) (hnw.alloc _) ?_ ?_); (focus rfl); (focus rfl); rotate_left 1; (focus rfl); (focus simp only [World.alloc, Array.size_push]); (focus omega); intro v1 w1 hr1 hn1 hf1 ho1; refine hK _ _ ?_))
      exact ⟨⟨k + 1, by omega, by go_num, by rw [← HT.out]; exact hr1, hn1⟩, by simp [intOf]; omega⟩
    · have HS : Hid ((⟨#[97, 61]⟩ : ByteArray) ++ xs[k].key ++ ((⟨#[58]⟩ : ByteArray) ++ xs[k].val) = mk (attL xs[k])) := Lib.hid (by unfold attL; rw [if_neg hv]; (simp [cat, bs, mk, List.append_assoc]))
      rw [decide_eq_false hv] at hne
      have g1 := cat_size ⟨#[97, 61]⟩ xs[k].key
      have g2 := cat_size ⟨#[58]⟩ xs[k].val
      rw [show (⟨#[97, 61]⟩ : ByteArray).size = 2 from rfl] at g1
      rw [show (⟨#[58]⟩ : ByteArray).size = 1 from rfl] at g2
      clear hx
      go_wp2_with ((refine at_list rfl fun K hK => ?_; (with_reducible refine rowS_append (ops := #[]) (.tmp 24) (.tmp 26) ?_ u3 ((xs.take k).map attL) _ _ HS ?_ ?_ ?_ ?_ (hrow.alloc _) (hnw.alloc _) ?_ ?_); (focus rfl); (focus rfl); rotate_left 1; (focus rfl); (focus simp only [World.alloc, Array.size_push]); (focus omega); intro v1 w1 hr1 hn1 hf1 ho1; refine hK _ _ ?_))
      exact ⟨⟨k + 1, by omega, by go_num, by rw [← HT.out]; exact hr1, hn1⟩, by simp [intOf]; omega⟩
  · rw [List.take_of_length_le (by omega)] at hrow
    go_wp2
    go_ret
    exact ⟨_, rfl, hrow, hnw⟩
end Go.Proofs.YtcepdjlknalmnaaGreatDoor
/- The reference's lines of times. -/
namespace Go.Proofs.YtcepdjlknalmnaaGreatDoor
open Go.RowKit
set_option linter.unusedSimpArgs false
set_option linter.unusedVariables false
attribute [local go_sem ↓] Go.wp_at_zero Go.wp_at_succ
theorem rowS_appendC {ops : Array Oper} {o : Oper} {a : Act} {Q : Exit → Act → World → Prop} {K : Act → World → Prop} {w0 W : World} (s x : Operand)
 (ho : o.op = .call { callee := .builtin .append, args := #[s, x], argTypes := #[25, 25] }) (v : Value) (ls : List (List UInt8)) (S : ByteArray) (l : List UInt8) (hS : Hid (S = mk l)) (hlen : Hid (l.length ≤ strMax)) (hs : a.eval s = v) (g : Nat) (hx : a.eval x = .slice (some ⟨g, 0, none⟩) 1 1) (hc : W.cell? ⟨g, 0, none⟩ = some (.string S))
 (HO : RowS W w0.heap.size v ls) (hn : Nw w0 W) (hl : ls.length + 1 ≤ 1099511627776)
 (h : ∀ v1 w1, RowS w1 w0.heap.size v1 (ls ++ [l]) → Nw w0 w1 → Fr (fun k => some k = v.ownBlock) W w1 → (v1.ownBlock = v.ownBlock ∨ ∃ b, v1.ownBlock = some b ∧ W.heap.size ≤ b) → K (a.put o.dst v1) w1) :
 o.wp Tryz.prog a W K Q := by
 obtain rfl := hS.out
 refine rowS_appends (ops := ops) s x ho v _ ls [l] hs hx ⟨by simp, .inr ⟨by simp, g, 0, 1, rfl, by simp, fun k y hy => ?_⟩⟩ HO hn hl h
 have hk : k = 0 := by have := (List.getElem?_eq_some_iff.1 hy).1; simp at this; omega
 subst hk
 obtain rfl : mk l = y := by simpa using hy
 refine ⟨_, ⟨rfl, by unfold WfStr; rw [mk_size]; exact hlen.out⟩, fun j u hu => ?_⟩
 have hj : j = 0 := by have := (List.getElem?_eq_some_iff.1 hu).1; simp at this; omega
 subst hj
 obtain rfl : Value.string (mk l) = u := by simpa using hu
 simpa using hc
theorem Fr.cell {S : Nat → Prop} {w w' : World} (h : Fr S w w') {p : Addr} {u : Value} (hs : ¬ S p.block) (hc : w.cell? p = some u) : w'.cell? p = some u :=
 (World.cell?_of_block (w := w) (h.block p.block (World.block_lt_of_cell? w p hc) hs)).trans hc
theorem flat_split {α β : Type} (f : α → List β) {xs : List α} {k : Nat} (h : k < xs.length) : xs.flatMap f = (xs.take k).flatMap f ++ f xs[k] ++ (xs.drop (k + 1)).flatMap f := by
 conv => lhs; rw [← List.take_append_drop k xs, List.flatMap_append, List.drop_eq_getElem_cons h, List.flatMap_cons, ← List.append_assoc]
theorem flat_snoc {α β : Type} (f : α → List β) {xs : List α} {k : Nat} (h : k < xs.length) : (xs.take k).flatMap f ++ f xs[k] = (xs.take (k + 1)).flatMap f := by
 rw [take_snoc h, List.flatMap_append]; simp
def timL (t : Tim) : List UInt8 := [116, 61] ++ (Lib.decDigits (Int.toNat t.start)) ++ [32] ++ (Lib.decDigits (Int.toNat t.stop))
def offsL (l : List Int) : List UInt8 := l.flatMap (fun o => [32] ++ (Lib.itoa o))
def repL (r : Rep) : List UInt8 := [114, 61] ++ (Lib.itoa r.ivl) ++ [32] ++ (Lib.itoa r.dur) ++ offsL r.offs
def timeLs (xs : List Tim) : List (List UInt8) := xs.flatMap (fun t => timL t :: t.reps.map repL)
theorem sgn_len {n : Int} (h : WfInt .i64 n) : (mk ((Lib.itoa n))).size ≤ 21 := by
 have h0 : -9223372036854775808 ≤ n := h.1
 have h1 : n ≤ 9223372036854775807 := h.2
 unfold Lib.itoa
 split
 · have := dec_len (u := n.natAbs) (by omega)
   rw [mk_size] at this ⊢
   simp; omega
 · have := dec_len (u := n.toNat) (by omega)
   omega
theorem wf_u64 {n : Int} (h : WfInt .u64 n) : 0 ≤ n ∧ n < 18446744073709551616 := by
 have h0 : (0 : Int) ≤ n := h.1
 have h1 : n ≤ 18446744073709551615 := h.2
 omega
theorem dec_le {n : Int} (h : WfInt .u64 n) : (mk ((Lib.decDigits (Int.toNat n)))).size ≤ 20 := dec_len (by have := wf_u64 h; omega)
theorem offs_le (l : List Int) (k : Nat) : (offsL (l.take k)).length ≤ (offsL l).length := by
 conv => rhs; rw [← List.take_append_drop k l]
 unfold offsL
 rw [List.flatMap_append, List.length_append]
 omega
set_option maxRecDepth 100000 in
set_option maxHeartbeats 1000000 in
theorem spec_timed (xs : List Tim) (v : Value) (w : World) (h : tyTim.Sl w xs v) (hb : Lns (timeLs xs)) :
 Calls Tryz.prog 35 #[v] w fun e w' => ∃ v', e = .returned v' ∧ RowS w' w.heap.size v' (timeLs xs) ∧ Nw w w' := by
 obtain ⟨A, c, rfl⟩ := Ty.Sl_form h
 have hm := h.1
 have HB := Lib.hid hb
 clear hb
 go_enter Tryz.func35, Tryz.ntmps35
 go_wp2
 go_loopw [3, 13] (fun out i wr => ∃ k : Nat, k ≤ xs.length ∧ i = .int .i64 k ∧ RowS wr w.heap.size out (timeLs (xs.take k)) ∧ Nw w wr) (fun out i _ => xs.length - (intOf i).toNat)
 case atStart => exact ⟨0, Nat.zero_le _, rfl, RowS.nil _ _, Nw.refl _⟩
 case round =>
  obtain ⟨k, hk, rfl, hrow, hnw⟩ := hrel
  by_cases hlt : k < xs.length
  · obtain ⟨b, o, rfl, ha⟩ := Ty.Sl_at h k hlt
    obtain ⟨cs, ⟨v1, rfl, hs0, hs1, h1⟩, hx⟩ := ha k _ (List.getElem?_eq_getElem hlt)
    obtain ⟨A1, n1, rfl⟩ := Ty.Sl_form h1
    have c0 := hnw.cell (hx 0 _ rfl)
    have c1 := hnw.cell (hx 1 _ rfl)
    have c2 := hnw.cell (hx 2 _ rfl)
    simp only [tyTim, Nat.add_zero] at c0 c1 c2
    have hm1 := h1.1
    have hsplit := flat_split (fun t => timL t :: t.reps.map repL) hlt
    have HT : Hid (timeLs (xs.take k) ++ (timL xs[k] :: xs[k].reps.map repL) = timeLs (xs.take (k + 1))) := Lib.hid (flat_snoc (fun t => timL t :: t.reps.map repL) hlt)
    have hlen : (timeLs (xs.take k)).length + xs[k].reps.length + 1 ≤ 1099511627776 := by
     have := HB.out.len
     unfold timeLs at this ⊢
     rw [hsplit] at this
     simp only [List.length_append, List.length_cons, List.length_map] at this
     omega
    have HR : Hid (∀ r ∈ xs[k].reps, (repL r).length ≤ strMax) := Lib.hid (fun r hr => HB.out.all _ (by
     unfold timeLs; rw [hsplit]
     exact List.mem_append_left _ (List.mem_append_right _ (List.mem_cons_of_mem _ (List.mem_map_of_mem hr)))))
    clear hx ha hsplit
    obtain ⟨t, ht⟩ : ∃ t, t = xs[k] := ⟨_, rfl⟩
    rw [← ht] at c0 c1 c2 hs0 hs1 h1 hm1 hlen HR HT
    clear ht
    go_wp2
    obtain ⟨wB, hwB⟩ : ∃ wB, wB = wr.alloc (.cells #[.int .u64 t.start, .int .u64 t.stop, .slice A1 t.reps.length n1] 74) := ⟨_, rfl⟩
    have g0 : wB.cell? ⟨wr.heap.size, 0, none⟩ = some (.int .u64 t.start) := by rw [hwB]; go_simp
    have g1 : wB.cell? ⟨wr.heap.size, 1, none⟩ = some (.int .u64 t.stop) := by rw [hwB]; go_simp
    have g2 : wB.cell? ⟨wr.heap.size, 2, none⟩ = some (.slice A1 t.reps.length n1) := by rw [hwB]; go_simp
    have hqB : Nw wr wB := by rw [hwB]; exact (Nw.refl wr).alloc _
    have hrowB := hrow.nw hqB
    have hnB := hnw.trans hqB
    have hne : ¬ some wr.heap.size = u3.ownBlock := fun e => Nat.lt_irrefl _ (Row.base hrow _ e.symm).2
    rw [← hwB]
    clear hwB c0 c1 c2 hrow
    have s0 := wf_u64 hs0
    have s1 := wf_u64 hs1
    have d0 := dec_le hs0
    have d1 := dec_le hs1
    have e0 := cat_size ⟨#[116, 61]⟩ (mk ((Lib.decDigits (Int.toNat t.start))))
    have e1 := cat_size ((⟨#[116, 61]⟩ : ByteArray) ++ (mk ((Lib.decDigits (Int.toNat t.start))))) ⟨#[32]⟩
    rw [show (⟨#[116, 61]⟩ : ByteArray).size = 2 from rfl] at e0
    rw [show (⟨#[32]⟩ : ByteArray).size = 1 from rfl] at e1
    have HS : Hid ((⟨#[116, 61]⟩ : ByteArray) ++ mk ((Lib.decDigits (Int.toNat t.start))) ++ ⟨#[32]⟩ ++ mk ((Lib.decDigits (Int.toNat t.stop))) = mk (timL t)) := Lib.hid (by unfold timL; (simp [cat, bs, mk, List.append_assoc]))
    have HL : Hid ((timL t).length ≤ strMax) := Lib.hid (by
     rw [← mk_size, ← HS.out, cat_size, e1, e0]; simp only [strMax]; omega)
    have y0 : ¬ 9223372036854775807 < 2 + (mk ((Lib.decDigits (Int.toNat t.start)))).size := by omega
    have y3 : ¬ 9223372036854775807 < 2 + (mk ((Lib.decDigits (Int.toNat t.start)))).size + 1 := by omega
    have y4 : ¬ 9223372036854775807 < 2 + (mk ((Lib.decDigits (Int.toNat t.start)))).size + 1 + (mk ((Lib.decDigits (Int.toNat t.stop)))).size := by omega
    go_region_held3 (fun w' => w'.cell? ⟨wr.heap.size, 0, none⟩ = some (.int .u64 t.start) ∧ w'.cell? ⟨wr.heap.size, 1, none⟩ = some (.int .u64 t.stop)) (first | go_keep | exact ⟨Nw.cell (by (repeat (first | (with_reducible assumption) | (with_reducible exact Nw.refl _) | (with_reducible refine Nw.drew ?_) | (with_reducible refine Nw.drewN ?_ _) | (with_reducible refine Nw.alloc ?_ _)))) g0, Nw.cell (by (repeat (first | (with_reducible assumption) | (with_reducible exact Nw.refl _) | (with_reducible refine Nw.drew ?_) | (with_reducible refine Nw.drewN ?_ _) | (with_reducible refine Nw.alloc ?_ _)))) g1⟩)
     (first
      | (go_at_call 32; with_reducible refine (dec_any t.start _ s0.1 s0.2).mono ?_; rintro e w1 ⟨rfl, hn1⟩; have hq1 : Nw wB w1 := Nw.trans (by (repeat (first | (with_reducible assumption) | (with_reducible exact Nw.refl _) | (with_reducible refine Nw.drew ?_) | (with_reducible refine Nw.drewN ?_ _) | (with_reducible refine Nw.alloc ?_ _)))) hn1)
      | (go_at_call 32; with_reducible refine (dec_any t.stop _ s1.1 s1.2).mono ?_; rintro e w2 ⟨rfl, hn2⟩; have hq2 : Nw wB w2 := Nw.trans (by (repeat (first | (with_reducible assumption) | (with_reducible exact Nw.refl _) | (with_reducible refine Nw.drew ?_) | (with_reducible refine Nw.drewN ?_ _) | (with_reducible refine Nw.alloc ?_ _)))) hn2)
      | ((refine at_step rfl ?_; (with_reducible refine rowS_appendC (ops := #[]) (.tmp 17) (.tmp 27) ?_ u3 (timeLs (xs.take k)) _ _ HS HL ?_ ?_ ?_ ?_ (RowS.nw hrowB ?_) (Nw.trans hnB ?_) ?_ ?_); (focus rfl); (focus rfl); rotate_left 1; (focus rfl); (focus go_simp); (focus (repeat (first | (with_reducible assumption) | (with_reducible exact Nw.refl _) | (with_reducible refine Nw.drew ?_) | (with_reducible refine Nw.drewN ?_ _) | (with_reducible refine Nw.alloc ?_ _)))); (focus (repeat (first | (with_reducible assumption) | (with_reducible exact Nw.refl _) | (with_reducible refine Nw.drew ?_) | (with_reducible refine Nw.drewN ?_ _) | (with_reducible refine Nw.alloc ?_ _)))); (focus omega); intro v3 w3 hr3 hn3 hf3 ho3); have k0 := hf3.cell hne (Nw.cell (by (repeat (first | (with_reducible assumption) | (with_reducible exact Nw.refl _) | (with_reducible refine Nw.drew ?_) | (with_reducible refine Nw.drewN ?_ _) | (with_reducible refine Nw.alloc ?_ _)))) g0); have k1 := hf3.cell hne (Nw.cell (by (repeat (first | (with_reducible assumption) | (with_reducible exact Nw.refl _) | (with_reducible refine Nw.drew ?_) | (with_reducible refine Nw.drewN ?_ _) | (with_reducible refine Nw.alloc ?_ _)))) g1); have k2 := hf3.cell hne (Nw.cell (by (repeat (first | (with_reducible assumption) | (with_reducible exact Nw.refl _) | (with_reducible refine Nw.drew ?_) | (with_reducible refine Nw.drewN ?_ _) | (with_reducible refine Nw.alloc ?_ _)))) g2)))
    clear HS HL y0 y3 y4 e0 e1 d0 d1 g0 g1 g2 hrowB hn1 hq1 hn2 hq2 hf3 ho3 hne
    obtain ⟨ls, hls⟩ : ∃ ls, ls = timeLs (xs.take k) ++ [timL t] := ⟨_, rfl⟩
    rw [← hls] at hr3
    have HT2 : Hid (ls ++ t.reps.map repL = timeLs (xs.take (k + 1))) := Lib.hid (by rw [hls, ← HT.out]; simp)
    have hlen2 : ls.length + t.reps.length ≤ 1099511627776 := by rw [hls]; simp; omega
    clear hls HT hlen
    go_wp2
    go_loopw [3, 32] (fun out i wr2 => ∃ j : Nat, j ≤ t.reps.length ∧ i = .int .i64 j ∧ RowS wr2 w.heap.size out (ls ++ (t.reps.take j).map repL) ∧ Nw w wr2) (fun out i _ => t.reps.length - (intOf i).toNat)
    case atStart => exact ⟨0, Nat.zero_le _, rfl, by simpa using hr3, hn3⟩
    case round =>
     obtain ⟨j, hj, rfl, hrow, hnw2⟩ := hrel
     by_cases hlt2 : j < t.reps.length
     · obtain ⟨b1, o1, rfl, ha9⟩ := Ty.Sl_at h1 j hlt2
       obtain ⟨cs, ⟨v2, rfl, hs2, hs3, h2⟩, hx⟩ := ha9 j _ (List.getElem?_eq_getElem hlt2)
       obtain ⟨A2, n2, rfl⟩ := Ty.Sl_form h2
       have c0 := hnw2.cell (hx 0 _ rfl)
       have c1 := hnw2.cell (hx 1 _ rfl)
       have c2 := hnw2.cell (hx 2 _ rfl)
       simp only [tyRep, Nat.add_zero] at c0 c1 c2
       have hr1 := HR.out _ (List.getElem_mem hlt2)
       have HT3 : Hid (ls ++ (t.reps.take j).map repL ++ [repL t.reps[j]] = ls ++ (t.reps.take (j + 1)).map repL) := Lib.hid (by rw [List.append_assoc, map_snoc repL hlt2])
       have hlen3 : (ls ++ (t.reps.take j).map repL).length + 1 ≤ 1099511627776 := by simp; omega
       clear hx ha9
       obtain ⟨r, hr⟩ : ∃ r, r = t.reps[j] := ⟨_, rfl⟩
       rw [← hr] at c0 c1 c2 hs2 hs3 h2 hr1 HT3
       clear hr
       have hm2 := h2.1
       go_wp2
       obtain ⟨wC, hwC⟩ : ∃ wC, wC = wr.alloc (.cells #[.int .i64 r.ivl, .int .i64 r.dur, .slice A2 r.offs.length n2] 78) := ⟨_, rfl⟩
       have g0 : wC.cell? ⟨wr.heap.size, 0, none⟩ = some (.int .i64 r.ivl) := by rw [hwC]; go_simp
       have g1 : wC.cell? ⟨wr.heap.size, 1, none⟩ = some (.int .i64 r.dur) := by rw [hwC]; go_simp
       have g2 : wC.cell? ⟨wr.heap.size, 2, none⟩ = some (.slice A2 r.offs.length n2) := by rw [hwC]; go_simp
       have hqC : Nw wr wC := by rw [hwC]; exact (Nw.refl wr).alloc _
       have hrowC := hrow.nw hqC
       have hnC := hnw2.trans hqC
       rw [← hwC]
       clear hwC c0 c1 c2 hrow
       have d0 := sgn_len hs2
       have d1 := sgn_len hs3
       have y0 : ¬ 9223372036854775807 < 2 + (mk ((Lib.itoa r.ivl))).size := by omega
       have y3 : ¬ 9223372036854775807 < 2 + (mk ((Lib.itoa r.ivl))).size + 1 := by omega
       have y4 : ¬ 9223372036854775807 < 2 + (mk ((Lib.itoa r.ivl))).size + 1 + (mk ((Lib.itoa r.dur))).size := by omega
       go_region_held3 (fun w' => w'.cell? ⟨wr.heap.size, 0, none⟩ = some (.int .i64 r.ivl) ∧ w'.cell? ⟨wr.heap.size, 1, none⟩ = some (.int .i64 r.dur)) (first | go_keep | exact ⟨Nw.cell (by (repeat (first | (with_reducible assumption) | (with_reducible exact Nw.refl _) | (with_reducible refine Nw.drew ?_) | (with_reducible refine Nw.drewN ?_ _) | (with_reducible refine Nw.alloc ?_ _)))) g0, Nw.cell (by (repeat (first | (with_reducible assumption) | (with_reducible exact Nw.refl _) | (with_reducible refine Nw.drew ?_) | (with_reducible refine Nw.drewN ?_ _) | (with_reducible refine Nw.alloc ?_ _)))) g1⟩)
        (first
         | (go_at_call 31; with_reducible refine (spec_Signed r.ivl _ hs2).mono ?_; rintro e w4 ⟨rfl, hn4⟩; have hq4 : Nw wC w4 := Nw.trans (by (repeat (first | (with_reducible assumption) | (with_reducible exact Nw.refl _) | (with_reducible refine Nw.drew ?_) | (with_reducible refine Nw.drewN ?_ _) | (with_reducible refine Nw.alloc ?_ _)))) hn4)
         | (go_at_call 31; with_reducible refine (spec_Signed r.dur _ hs3).mono ?_; rintro e w5 ⟨rfl, hn5⟩; have hq5 : Nw wC w5 := Nw.trans (by (repeat (first | (with_reducible assumption) | (with_reducible exact Nw.refl _) | (with_reducible refine Nw.drew ?_) | (with_reducible refine Nw.drewN ?_ _) | (with_reducible refine Nw.alloc ?_ _)))) hn5))
       have k2 := Nw.cell hq5 g2
       have hn5' := hnC.trans hq5
       obtain ⟨bl, hbl⟩ : ∃ bl, bl = [114, 61] ++ (Lib.itoa r.ivl) ++ [32] ++ (Lib.itoa r.dur) := ⟨_, rfl⟩
       have HS0 : Hid ((⟨#[114, 61]⟩ : ByteArray) ++ mk ((Lib.itoa r.ivl)) ++ ⟨#[32]⟩ ++ mk ((Lib.itoa r.dur)) = mk (bl ++ offsL (r.offs.take 0))) := Lib.hid (by rw [hbl]; simp only [List.take_zero, offsL, List.flatMap_nil, List.append_nil]; (simp [cat, bs, mk, List.append_assoc]))
       have hrL : bl ++ offsL r.offs = repL r := by rw [hbl]; rfl
       have HRL := Lib.hid hrL
       have hlen4 : bl.length + (offsL r.offs).length ≤ strMax := by rw [← List.length_append, hrL]; exact hr1
       clear hbl hrL g0 g1 g2 y0 y3 y4 d0 d1 hr1
       go_wp2
       go_loopw [8, 48] (fun s i wr => ∃ l : Nat, l ≤ r.offs.length ∧ i = .int .i64 l ∧ s = .string (mk (bl ++ offsL (r.offs.take l))) ∧ Nw wC wr) (fun s i _ => r.offs.length - (intOf i).toNat)
       case atStart => exact ⟨0, Nat.zero_le _, rfl, by rw [HS0.out], hq5⟩
       case round =>
        obtain ⟨l, hl, rfl, rfl, hnw3⟩ := hrel
        by_cases hlt3 : l < r.offs.length
        · obtain ⟨b2, o2, rfl, ha2⟩ := Ty.Sl_at h2 l hlt3
          obtain ⟨cs, ⟨rfl, hwf⟩, hx⟩ := ha2 l _ (List.getElem?_eq_getElem hlt3)
          have hx := (hnC.trans hnw3).cell (hx 0 _ rfl)
          simp only [tyI, tyInt, Ty.flat, Nat.mul_one, Nat.add_zero] at hx
          have d0 := sgn_len hwf
          have HS1 : Hid (mk (bl ++ offsL (r.offs.take l)) ++ ((⟨#[32]⟩ : ByteArray) ++ mk ((Lib.itoa r.offs[l]))) = mk (bl ++ offsL (r.offs.take (l + 1)))) := Lib.hid (by
           rw [show offsL (r.offs.take (l + 1)) = offsL (r.offs.take l) ++ ([32] ++ (Lib.itoa r.offs[l])) from (flat_snoc (fun o => [32] ++ (Lib.itoa o)) hlt3).symm]
           (simp [cat, bs, mk, List.append_assoc]))
          have e0 := cat_size ⟨#[32]⟩ (mk ((Lib.itoa r.offs[l])))
          rw [show (⟨#[32]⟩ : ByteArray).size = 1 from rfl] at e0
          have e1 := mk_size (bl ++ offsL (r.offs.take l))
          have e2 := offs_le r.offs l
          rw [List.length_append] at e1
          simp only [strMax] at hlen4
          go_wp2_with (go_at_call 31; with_reducible refine (spec_Signed r.offs[l] _ hwf).mono ?_; rintro e w6 ⟨rfl, hn6⟩)
          exact ⟨⟨l + 1, by omega, by go_num, by rw [HS1.out], hnw3.trans hn6⟩, by simp [intOf]; omega⟩
        · rw [List.take_of_length_le (by omega), HRL.out]
          have HS : Hid (mk (repL r) = mk (repL r)) := Lib.hid rfl
          have hrow6 := hrowC.nw hnw3
          have hn6 := hnC.trans hnw3
          go_wp2_with ((refine at_list rfl fun K hK => ?_; (with_reducible refine rowS_append (ops := #[]) (.tmp 58) (.tmp 60) ?_ u3 (ls ++ (t.reps.take j).map repL) _ _ HS ?_ ?_ ?_ ?_ hrow6 hn6 ?_ ?_); (focus rfl); (focus rfl); rotate_left 1; (focus rfl); (focus simp only [World.alloc, Array.size_push]); (focus omega); intro v1 w9 hr9 hn9 hf9 ho9; refine hK _ _ ?_))
          exact ⟨⟨j + 1, by omega, by go_num, by rw [← HT3.out]; exact hr9, hn9⟩, by simp [intOf]; omega⟩
     · rw [List.take_of_length_le (by omega)] at hrow
       go_wp2
       exact ⟨⟨k + 1, by omega, by go_num, by rw [← HT2.out]; exact hrow, hnw2⟩, by simp [intOf]; omega⟩
  · rw [List.take_of_length_le (by omega)] at hrow
    go_wp2
    go_ret
    exact ⟨_, rfl, hrow, hnw⟩
end Go.Proofs.YtcepdjlknalmnaaGreatDoor
/- The reference's text of lines, and whether a session is bare. -/
namespace Go.Proofs.YtcepdjlknalmnaaGreatDoor
open Go.RowKit
set_option linter.unusedSimpArgs false
set_option linter.unusedVariables false
def joinEnds (e : List UInt8) (ls : List (List UInt8)) : List UInt8 := ls.flatMap (fun l => l ++ e)
set_option maxRecDepth 100000 in
theorem spec_Text (ls : List (List UInt8)) (v : Value) (s : ByteArray) (w : World) (h : tyStr.Sl w (ls.map mk) v) (hs : s.size ≤ 10) (hb : (joinEnds (bs s) ls).length ≤ strMax) :
 Calls Tryz.prog 14 #[v, .string s] w fun e w' => e = .returned (.string (mk (joinEnds (bs s) ls))) ∧ w' = w := by
 obtain ⟨A, c, rfl⟩ := Ty.Sl_form h
 have hm := h.1
 have hL : (ls.map mk).length = ls.length := by simp
 rw [hL] at hm ⊢
 go_enter Tryz.func14, Tryz.ntmps14
 go_wp2
 go_loop [5, 10] (fun out i => ∃ k : Nat, k ≤ ls.length ∧ i = .int .i64 k ∧ out = .string (mk (joinEnds (bs s) (ls.take k)))) (fun out i => ls.length - (intOf i).toNat)
 case atStart => exact ⟨0, Nat.zero_le _, rfl, rfl⟩
 case round =>
  obtain ⟨k, hk, rfl, rfl⟩ := hrel
  by_cases hlt : k < ls.length
  · obtain ⟨b, o, rfl, ha⟩ := Ty.Sl_at h k (by rw [hL]; exact hlt)
    obtain ⟨cs, ⟨rfl, hwf⟩, hx⟩ := ha k (mk ls[k]) (by simp [hlt])
    have hx := hx 0 _ rfl
    simp only [tyStr, Ty.flat, Nat.mul_one, Nat.add_zero] at hx
    have hj : joinEnds (bs s) (ls.take k) ++ (ls[k] ++ bs s) = joinEnds (bs s) (ls.take (k + 1)) := flat_snoc (fun l => l ++ bs s) hlt
    have hle : (joinEnds (bs s) (ls.take (k + 1))).length ≤ (joinEnds (bs s) ls).length := by
     conv => rhs; rw [← List.take_append_drop (k + 1) ls]
     unfold joinEnds
     rw [List.flatMap_append, List.length_append]
     omega
    have hsz := mk_size (joinEnds (bs s) (ls.take k))
    have HJ : Hid (mk (joinEnds (bs s) (ls.take k)) ++ (mk ls[k] ++ s) = mk (joinEnds (bs s) (ls.take (k + 1)))) := Lib.hid (by
     rw [← hj]; (simp [cat, bs, mk, List.append_assoc]))
    rw [← hj, List.length_append, List.length_append, bs_len] at hle
    have g1 := mk_size ls[k]
    have g2 := cat_size (mk ls[k]) s
    simp only [strMax] at hb
    clear hj
    go_wp2
    exact ⟨⟨k + 1, by omega, by go_num, by rw [HJ.out]⟩, by simp [intOf]; omega⟩
  · rw [List.take_of_length_le (by omega)]
    go_wp2
    go_ret
    exact ⟨rfl, rfl⟩
end Go.Proofs.YtcepdjlknalmnaaGreatDoor

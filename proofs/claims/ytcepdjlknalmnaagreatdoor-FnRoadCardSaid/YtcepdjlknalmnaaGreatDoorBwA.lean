/- A bandwidth's text. -/
import Derived.Test.YtcepdjlknalmnaaGreatDoorShelf
import Derived.Lib.ParseIntBTie
import Derived.Test.YtcepdjlknalmnaaGreatDoorRepC
set_option linter.unusedSimpArgs false
set_option linter.unusedVariables false
namespace Go.Proofs.YtcepdjlknalmnaaGreatDoor
open Tryz
open Lib (bytesWorld parseUint10 decDigits atoiAll itoa hid)
open Go.RowKit
theorem Nw.bytes (w : World) (e : TypeId) (s : ByteArray) : Nw w (bytesWorld w e s) := by
 refine ⟨?_, ?_, ?_, ?_, ?_⟩
 · unfold bytesWorld World.freeze; split <;> rfl
 · unfold bytesWorld World.freeze; split <;> rfl
 · unfold bytesWorld World.freeze; split <;> rfl
 · unfold bytesWorld World.freeze; split <;> simp
 intro k hk
 unfold bytesWorld World.freeze
 split
 · exact ((Nw.refl w).drew.alloc _).block k hk
 show (Array.modify _ _ _)[k]? = _
 rw [Array.getElem?_modify]
 rw [if_neg (by simp; omega)]
 exact ((Nw.refl w).drew.alloc _).block k hk
theorem qNu {d : Nat} (h : d < 10) : (UInt8.ofNat (48 + d)).toNat = 48 + d := by
 simp only [UInt8.toNat_ofNat']; omega
theorem qJd {c : UInt8} {d m : Nat} (hc : c.toNat = 48 + d) (hd : d < 10) (hm : m * 10 + d < 18446744073709551616) : ∀ (l : List UInt8) (acc : Nat), parseUint10 acc l = .ok m -> parseUint10 acc (l ++ [c]) = .ok (m * 10 + d)
 | [], acc, h => by
  simp only [parseUint10] at h
  injection h with h
  subst h
  simp only [List.nil_append, parseUint10, hc]
  rw [if_pos (by omega), if_neg (by omega), if_neg (by omega)]
  congr 1
  omega
 | x :: l, acc, h => by
  simp only [List.cons_append, parseUint10] at h ⊢
  split at h
  · rename_i h1
    rw [if_pos h1]
    split at h
    · cases h
    rename_i h2
    rw [if_neg h2]
    split at h
    · cases h
    rename_i h3
    rw [if_neg h3]
    exact qJd hc hd hm l _ h
  cases h
theorem qP1 : ∀ (u : Nat), u < 18446744073709551616 -> parseUint10 0 (decDigits u) = .ok u := by
 intro u
 induction u using Nat.strongRecOn with
 | _ u ih =>
  intro h
  rw [decDigits]
  split
  · rename_i h1
    simp only [parseUint10, qNu h1]
    rw [if_pos (by omega), if_neg (by omega), if_neg (by omega)]
    congr 1
    omega
  rename_i h1
  have := qJd (qNu (Nat.mod_lt u (by decide : 0 < 10))) (Nat.mod_lt u (by decide)) (m := u / 10) (by omega) _ _ (ih (u / 10) (by omega) (by omega))
  rw [this]
  congr 1
  omega
theorem qJe (u : Nat) : decDigits u ≠ [] := by
 rw [decDigits]
 split <;> simp
theorem qLy {u : Nat} (h : u < 18446744073709551616) : Lib.parseMag (decDigits u) = .ok u := by
 unfold Lib.parseMag
 rw [if_neg (qJe u), qP1 u h]
theorem qC7 (u : Nat) : ∀ c ∈ decDigits u, 48 <= c.toNat /\ c.toNat <= 57 := by
 induction u using Nat.strongRecOn with
 | _ u ih =>
  intro c hc
  rw [decDigits] at hc
  split at hc
  · rename_i h1
    rw [List.mem_singleton.1 hc, qNu h1]; omega
  rename_i h1
  rcases List.mem_append.1 hc with hc | hc
  · exact ih (u / 10) (by omega) c hc
  have := Nat.mod_lt u (by decide : 0 < 10)
  rw [List.mem_singleton.1 hc, qNu this]; omega
theorem qMp {u : Nat} (h : u < 9223372036854775808) : atoiAll (decDigits u) = .ok (u : Int) := by
 have hd := qC7 u
 have hm := qLy (u := u) (by omega)
 cases hl : decDigits u with
 | nil => exact absurd hl (qJe u)
 | cons c r =>
  rw [hl] at hd hm
  have hc := hd c List.mem_cons_self
  simp only [atoiAll]
  rw [if_neg (by omega), hm]
  simp only
  rw [if_neg (by omega), if_neg (by omega), if_neg (by omega)]
theorem qP2 {v : Int} (h0 : -9223372036854775808 < v) (h1 : v < 9223372036854775808) : atoiAll (itoa v) = .ok v := by
 unfold itoa
 split
 · have hm := qLy (u := v.natAbs) (by omega)
   simp only [atoiAll]
   rw [if_pos (by decide), hm]
   simp only
   rw [if_neg (by simp), if_neg (by omega), if_pos (by decide)]
   congr 1
   omega
 rw [qMp (by omega)]
 congr 1
 omega
theorem qP3 {a b a' b' : Value} (h : a = a') (k : b = b') : Ending.returned (.tuple #[a, b]) = .returned (.tuple #[a', b']) := by rw [h, k]
theorem qJv (n : Int) (w : World) (h : qAg .u64 n) : Calls prog 240 #[.string (mk ((decDigits (Int.toNat n)))), .int .i64 10, .int .i64 64] w fun e w' => e = .returned (.tuple #[.int .u64 n, .nilIface]) /\ Nw w w' := by
 have h0 := qGu h
 have hl := qFh h
 have he : Lib.parseUintB 64 (mk ((decDigits (Int.toNat n)))).data.toList = .ok n.toNat := by
  rw [qDe, Lib.parseUintB_64, qLy (by omega)]
 refine (Tryz.strconv_ParseUint_10_at64_ok (mk ((decDigits (Int.toNat n)))) (by omega) n.toNat he w).mono ?_
 rintro e w' ⟨rfl, hw⟩
 refine ⟨qP3 (by rw [Int.toNat_of_nonneg h0.1]) rfl, ?_⟩
 rcases hw with rfl | rfl
 · exact Nw.refl _
 exact Nw.bytes _ _ _
theorem qK1 (v : Int) (w : World) (h0 : -9223372036854775808 < v) (h1 : v < 9223372036854775808) : Calls prog 266 #[.string (mk ((itoa v))), .int .i64 10, .int .i64 64] w fun e w' => e = .returned (.tuple #[.int .i64 v, .nilIface]) /\ Nw w w' := by
 have hl := qE6 (n := v) ⟨by show -9223372036854775808 <= v; omega, by show v <= 9223372036854775807; omega⟩
 have he : Lib.parseIntB 64 (mk ((itoa v))).data.toList = .ok v := by
  rw [qDe, Lib.parseIntB_64, qP2 h0 h1]
 refine (Tryz.strconv_ParseInt_10_at64_ok (mk ((itoa v))) (by omega) v he w).mono ?_
 rintro e w' ⟨rfl, hw⟩
 refine ⟨rfl, ?_⟩
 rcases hw with rfl | ⟨t, rfl⟩
 · exact Nw.refl _
 exact Nw.bytes _ _ _
theorem qMq (n : Nat) (w : World) (h : n < 9223372036854775808) : Calls prog 257 #[.string (mk (decDigits n))] w fun e w' => e = .returned (.tuple #[.int .i64 n, .nilIface]) /\ Nw w w' := by
 have hl := qDf (u := n) (by omega)
 refine (Tryz.strconv_Atoi_ok (mk (decDigits n)) (by omega) n (by rw [qDe]; exact qMp h) w).mono ?_
 rintro e w' ⟨rfl, hw⟩
 refine ⟨rfl, ?_⟩
 rcases hw with rfl | ⟨t, rfl⟩
 · exact Nw.refl _
 exact Nw.bytes _ _ _
def pre (z : UInt8) (l : List UInt8) : Nat := (l.takeWhile (fun c => c != z)).length
def qC8 (z : UInt8) (l : List UInt8) : List (List UInt8) :=
 if h : pre z l < l.length then l.take (pre z l) :: qC8 z (l.drop (pre z l + 1)) else [l]
termination_by l.length
decreasing_by simp only [List.length_drop]; omega
theorem qIe {z : UInt8} {l : List UInt8} (h : pre z l < l.length) : qC8 z l = l.take (pre z l) :: qC8 z (l.drop (pre z l + 1)) := by
 rw [qC8, dif_pos h]
theorem qIf {z : UInt8} {l : List UInt8} (h : ¬ pre z l < l.length) : qC8 z l = [l] := by
 rw [qC8, dif_neg h]
theorem qJw {z c : UInt8} {l : List UInt8} (h : c = z) : pre z (c :: l) = 0 := by unfold pre; rw [List.takeWhile_cons]; simp [h]
theorem qGy {z c : UInt8} {l : List UInt8} (h : ¬ c = z) : pre z (c :: l) = pre z l + 1 := by unfold pre; rw [List.takeWhile_cons]; simp [h]
theorem qP4 (z : UInt8) (l : List UInt8) : pre z l <= l.length := by
 induction l with
 | nil => simp [pre]
 | cons c l ih =>
  by_cases hc : c = z
  · rw [qJw hc]; omega
  rw [qGy hc, List.length_cons]; omega
theorem pre_ne {z : UInt8} {l : List UInt8} : ∀ {k : Nat} (h : k < pre z l) (hk : k < l.length), l[k] ≠ z := by
 induction l with
 | nil => intro k h; simp [pre] at h
 | cons c l ih =>
  intro k h hk
  by_cases hc : c = z
  · rw [qJw hc] at h; omega
  rw [qGy hc] at h
  match k with
  | 0 => simpa using hc
  | k + 1 => simpa using ih (k := k) (by omega) (by simpa using hk)
theorem pre_at {z : UInt8} {l : List UInt8} (h : pre z l < l.length) : l[pre z l]? = some z := by
 induction l with
 | nil => simp at h
 | cons c l ih =>
  by_cases hc : c = z
  · rw [qJw hc]; simp [hc]
  rw [qGy hc] at h ⊢
  simpa using ih (by simpa using h)
theorem pre_eq {z : UInt8} {l : List UInt8} (h : pre z l < l.length) : l[pre z l] = z := by
 have := pre_at h
 rw [List.getElem?_eq_getElem h] at this
 simpa using this
theorem one_byte (s : ByteArray) (k : Nat) (h : k < s.size) : (s.extract k (k + 1)).toList = [s[k]'h] := by
 rw [ByteArray.toList_eq, ByteArray.data_extract]
 apply List.ext_getElem
 · simp; have : s.data.size = s.size := rfl; omega
 intro i h1 h2
 simp at h2
 subst h2
 simp [ByteArray.getElem_eq_getElem_data]
set_option maxRecDepth 100000 in
theorem qLz (s : ByteArray) (z : UInt8) (w : World) (hs : qAb s) :
 Calls prog 149 #[.string s, .string ⟨#[z]⟩] w fun e w' => e = .returned (.int .i64 (if pre z (bs s) < s.size then (pre z (bs s) : Int) else -1)) /\ w = w' := by
 have hm : s.size <= 1152921504606846976 := hs
 have hP := qP4 z (bs s)
 rw [qC4] at hP
 have HN := hid (fun k h hk => pre_ne (z := z) (l := bs s) (k := k) h hk)
 have HQ := hid (fun h => pre_eq (z := z) (l := bs s) h)
 obtain ⟨P, hPP⟩ : ∃ P, P = pre z (bs s) := ⟨_, rfl⟩
 rw [<- hPP] at hP HN HQ ⊢
 clear hPP
 have hz : (⟨#[z]⟩ : ByteArray).size = 1 := rfl
 have hzl : (⟨#[z]⟩ : ByteArray).toList = [z] := by rw [ByteArray.toList_eq]
 go_enter func149, ntmps149
 go_wp2
 go_loop [5] (fun i => ∃ k : Nat, k <= P /\ i = .int .i64 k) (fun i => P - (intOf i).toNat)
 case atStart => exact ⟨0, Nat.zero_le _, rfl⟩
 obtain ⟨k, hk, rfl⟩ := hrel
 by_cases hlt : k < s.size
 · have h1 := one_byte s k hlt
   by_cases hkP : k < P
   · have h2 : (s[k]'hlt == z) = false := by
      have := HN.out k hkP (by rw [qC4]; exact hlt)
      rw [qDy hlt] at this
      simpa using this
     go_wp2
     exact ⟨⟨k + 1, by omega, by go_num⟩, by simp [intOf]; omega⟩
   obtain rfl : k = P := by omega
   have h2 : (s[k]'hlt == z) = true := by
    have := HQ.out (by rw [qC4]; exact hlt)
    rw [qDy hlt] at this
    simpa using this
   go_wp2
   go_ret
   exact ⟨rfl, rfl⟩
 obtain rfl : k = P := by omega
 go_wp2
 go_ret
 exact ⟨rfl, rfl⟩
theorem qJf (s : ByteArray) (p q : Nat) : bs (s.extract p q) = ((bs s).take q).drop p := by
 unfold bs
 rw [ByteArray.data_extract, Array.toList_extract, List.extract_eq_take_drop, List.drop_take]
theorem qDj (s : ByteArray) (p q : Nat) : s.extract p q = mk (((bs s).take q).drop p) := by
 rw [<- qJf]; rfl
set_option maxRecDepth 100000 in
set_option maxHeartbeats 1000000 in
theorem qGm (s : ByteArray) (z : UInt8) (w : World) (hs : qAb s) (hb : s.size <= 1000000000000) :
 Calls prog 136 #[.string s, .string ⟨#[z]⟩] w fun e w' => ∃ v', e = .returned v' /\ qB2 w' w.heap.size v' (qC8 z (bs s)) /\ Nw w w' := by
 have hz : (⟨#[z]⟩ : ByteArray).size = 1 := rfl
 go_enter func136, ntmps136
 go_wp2
 go_loopg [0, 5] s.size (fun n t out wr => ∃ (x : ByteArray) (done : List (List UInt8)), t = .string x /\ n = x.size /\ x.size + done.length <= s.size /\ done ++ qC8 z (bs x) = qC8 z (bs s) /\ qB2 wr w.heap.size out done /\ Nw w wr)
 case atStart => exact ⟨s, [], rfl, rfl, by simp, rfl, qB2.nil _ _, Nw.refl _⟩
 obtain ⟨x, done, rfl, hn, hsz, hd, hrow, hnw⟩ := hrel
 have HN := hid hn
 have HD := hid hd
 clear hn hd
 have hP := qP4 z (bs x)
 rw [qC4] at hP
 have HS := hid (fun h => qIe (z := z) (l := bs x) h)
 have HO := hid (fun h => qIf (z := z) (l := bs x) h)
 obtain ⟨P, hPP⟩ : ∃ P, P = pre z (bs x) := ⟨_, rfl⟩
 have hwx : qAb x := by unfold qAb qBj; omega
 have hc := qLz x z wr hwx
 rw [<- hPP] at hP HS HO hc
 have HC := hid hc
 clear hPP hc
 by_cases hlt : P < x.size
 · have E1 : Hid (x.extract 0 P = mk ((bs x).take P)) := hid (by rw [qDj]; rfl)
   have hlb : P < (bs x).length := by rw [qC4]; exact hlt
   have hle : (P : Int) <= (x.size : Int) := by omega
   have hle2 : (P : Int) + 1 <= (x.size : Int) := by omega
   go_wp2_with (first | (go_at_call 149; (with_reducible refine HC.out.mono ?_); rw [if_pos hlt]; rintro e w' ⟨rfl, rfl⟩) | ((refine qAc rfl fun K hK => ?_; (with_reducible refine qCd (ops := #[]) (.tmp 16) (.tmp 20) ?_ u5 done _ _ E1 ?_ ?_ ?_ ?_ hrow hnw ?_ ?_); (focus rfl); (focus rfl); rotate_left 1; (focus rfl); (focus simp only [World.alloc, Array.size_push]); (focus omega); intro v1 w1 hr1 hn1 hf1 ho1; refine hK _ _ ?_)))
   go_roundg (x.size - (P + 1))
   case measure => have := HN.out; omega
   refine ⟨x.extract (P + 1) x.size, done ++ [(bs x).take P], rfl, by simp only [ByteArray.size_extract]; omega, by simp only [ByteArray.size_extract, List.length_append, List.length_cons, List.length_nil]; omega, ?_, hr1, hn1⟩
   rw [<- HD.out, HS.out hlb, qJf, show (bs x).take x.size = bs x from List.take_of_length_le (by rw [qC4]; exact Nat.le_refl _), List.append_assoc]
   rfl
 have E1 : Hid (x = mk (bs x)) := hid rfl
 have hlb : ¬ P < (bs x).length := by rw [qC4]; exact hlt
 go_wp2_with (first | (go_at_call 149; (with_reducible refine HC.out.mono ?_); rw [if_neg hlt]; rintro e w' ⟨rfl, rfl⟩) | ((refine qAc rfl fun K hK => ?_; (with_reducible refine qCd (ops := #[]) (.tmp 12) (.tmp 14) ?_ u5 done _ _ E1 ?_ ?_ ?_ ?_ hrow hnw ?_ ?_); (focus rfl); (focus rfl); rotate_left 1; (focus rfl); (focus simp only [World.alloc, Array.size_push]); (focus omega); intro v1 w1 hr1 hn1 hf1 ho1; refine hK _ _ ?_)))
 go_ret
 exact ⟨_, rfl, by rw [<- HD.out, HO.out hlb]; exact hr1, hn1⟩
end Go.Proofs.YtcepdjlknalmnaaGreatDoor
/- The place of a sign in a text of ASCII. -/
namespace Go.Proofs.YtcepdjlknalmnaaGreatDoor
open Tryz
open Lib (bytesWorld parseUint10 decDigits atoiAll itoa hid)
open Go.RowKit
theorem Nw.iter (w : World) (s : ByteArray) (p : Nat) : Nw w (w.iter s p) := (Nw.refl w).alloc _
set_option maxRecDepth 1000000 in
theorem qIg (s : ByteArray) (w : World) (hs : qAb s) (ha : ∀ k (h : k < s.size), (s[k]'h).toNat < 128) :
 Calls prog 254 #[.string s, .int .i32 58] w fun e w' => e = .returned (.int .i64 (if pre 58 (bs s) < s.size then (pre 58 (bs s) : Int) else -1)) /\ Nw w w' := by
 have hm : s.size <= 1152921504606846976 := hs
 have hP := qP4 58 (bs s)
 rw [qC4] at hP
 have HN := hid (fun k h hk => pre_ne (z := 58) (l := bs s) (k := k) h hk)
 have HQ := hid (fun h => pre_eq (z := 58) (l := bs s) h)
 have HA := hid ha
 clear ha
 obtain ⟨P, hPP⟩ : ∃ P, P = pre 58 (bs s) := ⟨_, rfl⟩
 rw [<- hPP] at hP HN HQ ⊢
 clear hPP
 go_enter func254, ntmps254
 go_wp2
 go_loopw [] (fun w' => ∃ pos : Nat, w' = w.iter s pos /\ pos <= P) (fun w' => s.size - w'.iterPos w.heap.size)
 case atStart => exact ⟨0, rfl, Nat.zero_le _⟩
 obtain ⟨pos, rfl, hpos⟩ := hrel
 by_cases hp : pos < s.size
 · have hnx : ∀ ty, (Instr.next (.pointer (some ⟨w.heap.size, 0, none⟩)) true ty).run prog (w.iter s pos) = _ := fun ty => run_next_any w s pos ty hp
   rw [decode_ascii s pos hp (HA.out pos hp)] at hnx
   simp only at hnx
   by_cases hkP : pos < P
   · have h2 : (((s[pos]'hp).toNat : Int) == 58) = false := by
      have := HN.out pos hkP (by rw [qC4]; exact hp)
      rw [qDy hp] at this
      have h3 : (s[pos]'hp).toNat ≠ 58 := fun e => this (UInt8.toNat_inj.1 (by rw [e]; rfl))
      simp; omega
     go_wp2
     go_roundw
     case rel => exact ⟨pos + 1, rfl, by omega⟩
     case measure => simp; omega
   obtain rfl : pos = P := by omega
   have h2 : (((s[pos]'hp).toNat : Int) == 58) = true := by
    have := HQ.out (by rw [qC4]; exact hp)
    rw [qDy hp] at this
    rw [this]; rfl
   go_wp2
   go_ret
   exact ⟨rfl, Nw.iter _ _ _⟩
 have hnx : ∀ ty, (Instr.next (.pointer (some ⟨w.heap.size, 0, none⟩)) true ty).run prog (w.iter s pos) = _ := fun ty => run_next_end w s pos ty hp
 have h3 : ¬ P < s.size := by omega
 go_wp2
 go_ret
 exact ⟨rfl, Nw.iter _ _ _⟩
theorem qIh {z : UInt8} : ∀ {l r : List UInt8}, (∀ c ∈ l, c ≠ z) -> pre z (l ++ z :: r) = l.length
 | [], r, _ => by rw [List.nil_append, qJw rfl]; rfl
 | c :: l, r, h => by rw [List.cons_append, qGy (h c List.mem_cons_self), qIh (fun c hc => h c (List.mem_cons_of_mem _ hc))]; rfl
theorem qJx {z : UInt8} : ∀ {l : List UInt8}, (∀ c ∈ l, c ≠ z) -> pre z l = l.length
 | [], _ => rfl
 | c :: l, h => by rw [qGy (h c List.mem_cons_self), qJx (fun c hc => h c (List.mem_cons_of_mem _ hc))]; rfl
theorem qG9 {z : UInt8} {l r : List UInt8} (h : ∀ c ∈ l, c ≠ z) : qC8 z (l ++ z :: r) = l :: qC8 z r := by
 have hp := qIh (r := r) h
 rw [qIe (by rw [hp]; simp), hp]
 congr 1
 · simp
 congr 1
 rw [show l.length + 1 = (l ++ [z]).length by simp, show l ++ z :: r = (l ++ [z]) ++ r by simp, List.drop_left]
theorem qFz {z : UInt8} {l : List UInt8} (h : ∀ c ∈ l, c ≠ z) : qC8 z l = [l] := by
 rw [qIf]
 rw [qJx h]; omega
theorem qIi {n : Int} : ∀ c ∈ (decDigits (Int.toNat n)), 48 <= c.toNat /\ c.toNat <= 57 := fun c hc => qC7 _ c hc
def qN4 (b : Bwd) : List UInt8 := (if b.x then [88, 45] else []) ++ bs b.ty
theorem qP5 (b : Bwd) : qF8 b = qN4 b ++ 58 :: (decDigits (Int.toNat b.n)) := by simp [qF8, qN4]
theorem qF0 {s : ByteArray} {xs : List ByteArray} (h : qDb s xs = true) : ∃ x ∈ xs, bs x = bs s := by
 unfold qDb at h
 obtain ⟨x, hx, he⟩ := List.any_eq_true.1 h
 exact ⟨x, hx, by
  rw [ByteArray.toList_eq, ByteArray.toList_eq] at he
  exact eq_of_beq he⟩
theorem qNv {s : ByteArray} (h : qGh s = true) : ∀ c ∈ bs s, c ≠ 58 := by
 unfold qGh at h
 rw [Bool.and_eq_true] at h
 intro c hc e
 subst e
 have := List.all_eq_true.1 h.1 _ hc
 revert this
 decide
theorem bw_plain {b : Bwd} (h : bwB b = true) : (∀ c ∈ qN4 b, c ≠ 58) /\ Lib.hasPrefix (qN4 b) [88, 45] = b.x /\ (b.x = false -> qDb b.ty qCt = true) := by
 unfold bwB at h
 have h := (Bool.and_eq_true .. ▸ h).1
 rw [Bool.or_eq_true, Bool.and_eq_true] at h
 have hp : ∀ c ∈ bs b.ty, c ≠ 58 := by
  rcases h with h | h
  · obtain ⟨x, hx, he⟩ := qF0 h
    rw [<- he]
    exact (show ∀ x ∈ qCt, ∀ c ∈ bs x, c ≠ 58 by decide) x hx
  exact qNv h.2
 refine ⟨fun c hc => ?_, ?_, fun hx => ?_⟩
 · unfold qN4 at hc
   rcases List.mem_append.1 hc with h1 | h1
   · split at h1
     · rcases List.mem_cons.1 h1 with rfl | h1
       · decide
       rcases List.mem_cons.1 h1 with rfl | h1
       · decide
       cases h1
     cases h1
   exact hp c h1
 · cases hx : b.x with
   | true => simp [qN4, hx, Lib.hasPrefix, List.isPrefixOf]
   | false =>
    have h1 : qDb b.ty qCt = true := by rcases h with h | h; exact h; exact absurd h.1 (by rw [hx]; decide)
    obtain ⟨x, hx1, he⟩ := qF0 h1
    simp only [qN4, hx, Bool.false_eq_true, if_false, List.nil_append]
    rw [<- he]
    exact (show ∀ x ∈ qCt, Lib.hasPrefix (bs x) [88, 45] = false by decide) x hx1
 rcases h with h | h
 · exact h
 exact absurd h.1 (by rw [hx]; decide)
theorem qK2 (x : ByteArray) (g : Nat) (w : World) (hb : Blk w g [.string ⟨#[67, 84]⟩, .string ⟨#[65, 83]⟩, .string ⟨#[84, 73, 65, 83]⟩, .string ⟨#[82, 83]⟩, .string ⟨#[82, 82]⟩] 9) (hi : qDb x qCt = true) : Calls prog 174 #[.string x, .slice (some ⟨g, 0, none⟩) 5 5] w fun e w' => e = .returned (.bool true) /\ w = w' :=
 (qFt x qCt _ w (qKz hb (qCi (by decide)) rfl (by decide) (by decide))).mono (fun _ _ h => ⟨by rw [h.1, hi], h.2⟩)
set_option maxRecDepth 100000 in
set_option maxHeartbeats 1000000 in
theorem par_bw (b : Bwd) (w : World) (hb : bwB b = true) (hw : qAb b.ty /\ qAg .u64 b.n) (hsz : (qF8 b).length <= 1000000000000) :
 Calls prog 231 #[.string (mk (qF8 b))] w fun e w' => ∃ g, e = .returned (.tuple #[.pointer (some ⟨g, 0, none⟩), .nilIface]) /\ w.heap.size <= g /\ Blk w' g (qCj b) 198 /\ Nw w w' := by
 obtain ⟨hp, hpre, hin⟩ := bw_plain hb
 have hsp : qC8 58 (bs (mk (qF8 b))) = [qN4 b, (decDigits (Int.toNat b.n))] := by
  rw [bs_mk, qP5, qG9 hp, qFz (fun c hc e => by have := (qIi c hc).2; rw [e] at this; exact absurd this (by decide))]
 have hS := qGm (mk (qF8 b)) 58 w (show (mk (qF8 b)).size <= qBj by rw [qAy]; exact Nat.le_trans hsz (by decide)) (by rw [qAy]; omega)
 rw [hsp] at hS
 obtain ⟨x, hx⟩ : ∃ x, x = mk (qF8 b) := ⟨_, rfl⟩
 obtain ⟨x0, hx0⟩ : ∃ x, x = mk (qN4 b) := ⟨_, rfl⟩
 obtain ⟨x1, hx1⟩ : ∃ x, x = mk ((decDigits (Int.toNat b.n))) := ⟨_, rfl⟩
 have hU := fun w1 => qJv b.n w1 hw.2
 have hpre0 : Lib.hasPrefix x0.data.toList [88, 45] = b.x := by rw [hx0]; exact hpre
 rw [<- hx1] at hU
 rw [<- hx] at hS ⊢
 have HX0 := hid hx0
 have HX1 := hid hx1
 clear hx hx1 hsp hx0
 go_enter func231, ntmps231
 go_upto_region 2 with (go_at_call 136; (with_reducible refine hS.mono ?_); rintro e w1 ⟨v1, rfl, hR, hN1⟩; obtain ⟨g, c, rfl⟩ := Row.form1 hR (by simp); have c0 : w1.cell? ⟨g, 0, none⟩ = some (.string x0) := (by rw [HX0.out]; exact hR.cell (k := 0) (j := 0) rfl rfl rfl); have c1 : w1.cell? ⟨g, 1, none⟩ = some (.string x1) := (by rw [HX1.out]; exact hR.cell (k := 1) (j := 0) rfl rfl rfl); have f0 := hR.fz (g := g) (k := 0) rfl)
 go_upto_region 5 with (go_at_call 238; (with_reducible refine (Tryz.strings_HasPrefix _ _ _).mono ?_); rintro e w2 ⟨rfl, h0⟩; subst h0; rw [hpre0])
 obtain ⟨hgw, hgl⟩ := hR.base g rfl
 cases hx : b.x with
 | true =>
  have ht : (⟨(Lib.trimPrefix x0.data.toList [88, 45]).toArray⟩ : ByteArray) = b.ty := by
   unfold Lib.trimPrefix
   rw [hpre0, if_pos hx, HX0.out, qDe]
   simp only [qN4, hx, if_true]
   rfl
  go_upto_region 9 with (go_at_call 239; (with_reducible refine (Tryz.strings_TrimPrefix _ _ _).mono ?_); rintro e w3 ⟨rfl, h0⟩; subst h0; rw [ht])
  obtain ⟨w4, hw4⟩ : ∃ w4, w4 = w3.setCell ⟨g, 0, none⟩ (.string b.ty) := ⟨_, rfl⟩
  have hR4 : Row w4 w.heap.size 9 1 (.slice (some ⟨g, 0, none⟩) 2 c) ([[.string x0], [.string x1]].set 0 ([.string x0].set 0 (.string b.ty))) := by
   rw [hw4]
   have hR' : Row w3 w.heap.size 9 1 (.slice (some ⟨g, 0, none⟩) 2 c) [[.string x0], [.string x1]] := by rw [HX0.out, HX1.out]; exact hR
   exact hR'.set (g := g) (k := 0) (j := 0) rfl rfl (by decide) rfl
  have d0 : w4.cell? ⟨g, 0, none⟩ = some (.string b.ty) := hR4.cell (k := 0) (j := 0) rfl rfl rfl
  have d1 : w4.cell? ⟨g, 1, none⟩ = some (.string x1) := hR4.cell (k := 1) (j := 0) rfl rfl rfl
  have hN4 : Nw w w4 := by rw [hw4]; exact hN1.setCell hgw _
  have hg4 : g < w4.heap.size := (hR4.base g rfl).2
  rw [<- hw4]
  clear hw4 hR hR4 c0 c1 f0 hN1 hgl
  go_upto_region 12 with (go_at_call 240; (with_reducible refine (hU _).mono ?_); rintro e w5 ⟨rfl, q5⟩; have e0 := q5.cell d0)
  go_wp2
  go_ret2
  exact ⟨_, rfl, Nat.le_trans hN4.size q5.size, by unfold qCj; rw [hx]; exact Blk.made _ _ 198, (hN4.trans q5).alloc _⟩
 | false =>
  have h00 : x0 = b.ty := by rw [HX0.out]; unfold qN4; rw [hx]; rfl
  go_upto_region 9 with (go_at_call 174; (with_reducible refine (qK2 b.ty _ _ ?_ (hin hx)).mono ?_); (focus exact Blk.made' rfl _ 9); rintro e w3 ⟨rfl, rfl⟩)
  obtain ⟨w4, hw4⟩ : ∃ w4, w4 = w2.alloc (.cells #[.string ⟨#[67, 84]⟩, .string ⟨#[65, 83]⟩, .string ⟨#[84, 73, 65, 83]⟩, .string ⟨#[82, 83]⟩, .string ⟨#[82, 82]⟩] 9) := ⟨_, rfl⟩
  have q4 : Nw w2 w4 := by rw [hw4]; exact (Nw.refl _).alloc _
  have d0 : w4.cell? ⟨g, 0, none⟩ = some (.string b.ty) := by rw [<- h00]; exact q4.cell c0
  have d1 : w4.cell? ⟨g, 1, none⟩ = some (.string x1) := q4.cell c1
  have hN4 : Nw w w4 := hN1.trans q4
  have hg4 : g < w4.heap.size := Nat.lt_of_lt_of_le hgl q4.size
  rw [<- hw4]
  clear hw4 hR c0 c1 f0 hN1 hgl
  go_upto_region 12 with (go_at_call 240; (with_reducible refine (hU _).mono ?_); rintro e w5 ⟨rfl, q5⟩; have e0 := q5.cell d0)
  go_wp2
  go_ret2
  exact ⟨_, rfl, Nat.le_trans hN4.size q5.size, by unfold qCj; rw [hx]; exact Blk.made _ _ 198, (hN4.trans q5).alloc _⟩
end Go.Proofs.YtcepdjlknalmnaaGreatDoor

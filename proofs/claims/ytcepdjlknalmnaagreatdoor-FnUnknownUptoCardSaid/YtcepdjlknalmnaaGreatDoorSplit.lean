/- A text cut at a sign of one byte. -/
import Derived.Test.YtcepdjlknalmnaaGreatDoorLexB
namespace Go.Proofs.YtcepdjlknalmnaaGreatDoor
open Go.RowKit
set_option linter.unusedSimpArgs false
set_option linter.unusedVariables false

/-- How many bytes stand ahead of the first z. -/
def pre (z : UInt8) (l : List UInt8) : Nat := (l.takeWhile (fun c => c != z)).length
theorem ret_int {k : IntKind} {a b : Int} (h : a = b) : Ending.returned (.int k a) = .returned (.int k b) := by rw [h]
def splitB (z : UInt8) (l : List UInt8) : List (List UInt8) :=
  if h : pre z l < l.length then l.take (pre z l) :: splitB z (l.drop (pre z l + 1)) else [l]
termination_by l.length
decreasing_by simp only [List.length_drop]; omega
theorem splitB_some {z : UInt8} {l : List UInt8} (h : pre z l < l.length) : splitB z l = l.take (pre z l) :: splitB z (l.drop (pre z l + 1)) := by
  rw [splitB, dif_pos h]
theorem splitB_none {z : UInt8} {l : List UInt8} (h : ¬ pre z l < l.length) : splitB z l = [l] := by
  rw [splitB, dif_neg h]
theorem pre_nil (z : UInt8) : pre z [] = 0 := rfl
theorem pre_eqv {z c : UInt8} {l : List UInt8} (h : c = z) : pre z (c :: l) = 0 := by unfold pre; rw [List.takeWhile_cons]; simp [h]
theorem pre_cons {z c : UInt8} {l : List UInt8} (h : ¬ c = z) : pre z (c :: l) = pre z l + 1 := by unfold pre; rw [List.takeWhile_cons]; simp [h]
theorem pre_le (z : UInt8) (l : List UInt8) : pre z l ≤ l.length := by
  induction l with
  | nil => simp [pre]
  | cons c l ih =>
    by_cases hc : c = z
    · rw [pre_eqv hc]; omega
    · rw [pre_cons hc, List.length_cons]; omega
theorem pre_ne {z : UInt8} {l : List UInt8} : ∀ {k : Nat} (h : k < pre z l) (hk : k < l.length), l[k] ≠ z := by
  induction l with
  | nil => intro k h; simp [pre] at h
  | cons c l ih =>
    intro k h hk
    by_cases hc : c = z
    · rw [pre_eqv hc] at h; omega
    · rw [pre_cons hc] at h
      match k with
      | 0 => simpa using hc
      | k + 1 => simpa using ih (k := k) (by omega) (by simpa using hk)
theorem pre_at {z : UInt8} {l : List UInt8} (h : pre z l < l.length) : l[pre z l]? = some z := by
  induction l with
  | nil => simp at h
  | cons c l ih =>
    by_cases hc : c = z
    · rw [pre_eqv hc]; simp [hc]
    · rw [pre_cons hc] at h ⊢
      simpa using ih (by simpa using h)
theorem pre_eq {z : UInt8} {l : List UInt8} (h : pre z l < l.length) : l[pre z l] = z := by
  have := pre_at h
  rw [List.getElem?_eq_getElem h] at this
  simpa using this
theorem one_byte (s : ByteArray) (k : Nat) (h : k < s.size) : (s.extract k (k + 1)).toList = [s[k]'h] := by
  rw [ByteArray.toList_eq, ByteArray.data_extract]
  apply List.ext_getElem
  · simp; have : s.data.size = s.size := rfl; omega
  · intro i h1 h2
    simp at h2
    subst h2
    simp [ByteArray.getElem_eq_getElem_data]
set_option maxRecDepth 100000 in
theorem par_zzIndex (s : ByteArray) (z : UInt8) (w : World) (hs : WfStr s) :
    Calls Tryz.prog 149 #[.string s, .string ⟨#[z]⟩] w fun e w' => e = .returned (.int .i64 (if pre z (bs s) < s.size then (pre z (bs s) : Int) else -1)) ∧ w = w' := by
  have hm : s.size ≤ 1152921504606846976 := hs
  have hP := pre_le z (bs s)
  rw [bs_len] at hP
  have HN := Lib.hid (fun k h hk => pre_ne (z := z) (l := bs s) (k := k) h hk)
  have HQ := Lib.hid (fun h => pre_eq (z := z) (l := bs s) h)
  obtain ⟨P, hPP⟩ : ∃ P, P = pre z (bs s) := ⟨_, rfl⟩
  rw [← hPP] at hP HN HQ ⊢
  clear hPP
  have hz : (⟨#[z]⟩ : ByteArray).size = 1 := rfl
  have hzl : (⟨#[z]⟩ : ByteArray).toList = [z] := by rw [ByteArray.toList_eq]
  go_enter Tryz.func149, Tryz.ntmps149
  go_wp2
  go_loop [5] (fun i => ∃ k : Nat, k ≤ P ∧ i = .int .i64 k) (fun i => P - (intOf i).toNat)
  case atStart => exact ⟨0, Nat.zero_le _, rfl⟩
  case round =>
    obtain ⟨k, hk, rfl⟩ := hrel
    by_cases hlt : k < s.size
    · have h1 := one_byte s k hlt
      by_cases hkP : k < P
      · have h2 : (s[k]'hlt == z) = false := by
          have := HN.out k hkP (by rw [bs_len]; exact hlt)
          rw [get_list hlt] at this
          simpa using this
        go_wp2
        exact ⟨⟨k + 1, by omega, by go_num⟩, by simp [intOf]; omega⟩
      · obtain rfl : k = P := by omega
        have h2 : (s[k]'hlt == z) = true := by
          have := HQ.out (by rw [bs_len]; exact hlt)
          rw [get_list hlt] at this
          simpa using this
        go_wp2
        go_ret
        exact ⟨rfl, rfl⟩
    · obtain rfl : k = P := by omega
      go_wp2
      go_ret
      exact ⟨rfl, rfl⟩
theorem extract_bs (s : ByteArray) (p q : Nat) : bs (s.extract p q) = ((bs s).take q).drop p := by
  unfold bs
  rw [ByteArray.data_extract, Array.toList_extract, List.extract_eq_take_drop, List.drop_take]
theorem extract_mk (s : ByteArray) (p q : Nat) : s.extract p q = mk (((bs s).take q).drop p) := by
  rw [← extract_bs]; rfl
set_option maxRecDepth 100000 in
set_option maxHeartbeats 1000000 in
theorem par_zzSplit (s : ByteArray) (z : UInt8) (w : World) (hs : WfStr s) (hb : s.size ≤ 1000000000000) :
    Calls Tryz.prog 136 #[.string s, .string ⟨#[z]⟩] w fun e w' => ∃ v', e = .returned v' ∧ RowS w' w.heap.size v' (splitB z (bs s)) ∧ Nw w w' := by
  have hz : (⟨#[z]⟩ : ByteArray).size = 1 := rfl
  go_enter Tryz.func136, Tryz.ntmps136
  go_wp2
  go_loopg [0, 5] s.size (fun n t out wr => ∃ (x : ByteArray) (done : List (List UInt8)), t = .string x ∧ n = x.size ∧ x.size + done.length ≤ s.size ∧ done ++ splitB z (bs x) = splitB z (bs s) ∧ RowS wr w.heap.size out done ∧ Nw w wr)
  case atStart => exact ⟨s, [], rfl, rfl, by simp, rfl, RowS.nil _ _, Nw.refl _⟩
  case round =>
    obtain ⟨x, done, rfl, hn, hsz, hd, hrow, hnw⟩ := hrel
    have HN := Lib.hid hn
    have HD := Lib.hid hd
    clear hn hd
    have hP := pre_le z (bs x)
    rw [bs_len] at hP
    have HS := Lib.hid (fun h => splitB_some (z := z) (l := bs x) h)
    have HO := Lib.hid (fun h => splitB_none (z := z) (l := bs x) h)
    obtain ⟨P, hPP⟩ : ∃ P, P = pre z (bs x) := ⟨_, rfl⟩
    have hwx : WfStr x := by unfold WfStr strMax; omega
    have hc := par_zzIndex x z wr hwx
    rw [← hPP] at hP HS HO hc
    have HC := Lib.hid hc
    clear hPP hc
    by_cases hlt : P < x.size
    · have E1 : Hid (x.extract 0 P = mk ((bs x).take P)) := Lib.hid (by rw [extract_mk]; rfl)
      have hlb : P < (bs x).length := by rw [bs_len]; exact hlt
      have hle : (P : Int) ≤ (x.size : Int) := by omega
      have hle2 : (P : Int) + 1 ≤ (x.size : Int) := by omega
      go_wp2_with (first | (go_at_call 149; (with_reducible refine HC.out.mono ?_); rw [if_pos hlt]; rintro e w' ⟨rfl, rfl⟩) | ((refine at_list rfl fun K hK => ?_; (with_reducible refine rowS_append (ops := #[]) (.tmp 16) (.tmp 20) ?_ u5 done _ _ E1 ?_ ?_ ?_ ?_ hrow hnw ?_ ?_); (focus rfl); (focus rfl); rotate_left 1; (focus rfl); (focus simp only [World.alloc, Array.size_push]); (focus omega); intro v1 w1 hr1 hn1 hf1 ho1; refine hK _ _ ?_)))
      go_roundg (x.size - (P + 1))
      case measure => have := HN.out; omega
      case rel =>
        refine ⟨x.extract (P + 1) x.size, done ++ [(bs x).take P], rfl, by simp only [ByteArray.size_extract]; omega, by simp only [ByteArray.size_extract, List.length_append, List.length_cons, List.length_nil]; omega, ?_, hr1, hn1⟩
        rw [← HD.out, HS.out hlb, extract_bs, show (bs x).take x.size = bs x from List.take_of_length_le (by rw [bs_len]; exact Nat.le_refl _), List.append_assoc]
        rfl
    · have E1 : Hid (x = mk (bs x)) := Lib.hid rfl
      have hlb : ¬ P < (bs x).length := by rw [bs_len]; exact hlt
      go_wp2_with (first | (go_at_call 149; (with_reducible refine HC.out.mono ?_); rw [if_neg hlt]; rintro e w' ⟨rfl, rfl⟩) | ((refine at_list rfl fun K hK => ?_; (with_reducible refine rowS_append (ops := #[]) (.tmp 12) (.tmp 14) ?_ u5 done _ _ E1 ?_ ?_ ?_ ?_ hrow hnw ?_ ?_); (focus rfl); (focus rfl); rotate_left 1; (focus rfl); (focus simp only [World.alloc, Array.size_push]); (focus omega); intro v1 w1 hr1 hn1 hf1 ho1; refine hK _ _ ?_)))
      go_ret
      exact ⟨_, rfl, by rw [← HD.out, HO.out hlb]; exact hr1, hn1⟩
end Go.Proofs.YtcepdjlknalmnaaGreatDoor

/- The place of a sign in a text of ASCII. -/
namespace Go.Proofs.YtcepdjlknalmnaaGreatDoor
open Go.RowKit
set_option linter.unusedSimpArgs false
set_option linter.unusedVariables false

theorem Nw.iter (w : World) (s : ByteArray) (p : Nat) : Nw w (w.iter s p) := (Nw.refl w).alloc _
set_option maxRecDepth 1000000 in
theorem par_idxRune (s : ByteArray) (w : World) (hs : WfStr s) (ha : ∀ k (h : k < s.size), (s[k]'h).toNat < 128) :
    Calls Tryz.prog 254 #[.string s, .int .i32 58] w fun e w' => e = .returned (.int .i64 (if pre 58 (bs s) < s.size then (pre 58 (bs s) : Int) else -1)) ∧ Nw w w' := by
  have hm : s.size ≤ 1152921504606846976 := hs
  have hP := pre_le 58 (bs s)
  rw [bs_len] at hP
  have HN := Lib.hid (fun k h hk => pre_ne (z := 58) (l := bs s) (k := k) h hk)
  have HQ := Lib.hid (fun h => pre_eq (z := 58) (l := bs s) h)
  have HA := Lib.hid ha
  clear ha
  obtain ⟨P, hPP⟩ : ∃ P, P = pre 58 (bs s) := ⟨_, rfl⟩
  rw [← hPP] at hP HN HQ ⊢
  clear hPP
  go_enter Tryz.func254, Tryz.ntmps254
  go_wp2
  go_loopw [] (fun w' => ∃ pos : Nat, w' = w.iter s pos ∧ pos ≤ P) (fun w' => s.size - w'.iterPos w.heap.size)
  case atStart => exact ⟨0, rfl, Nat.zero_le _⟩
  case round =>
    obtain ⟨pos, rfl, hpos⟩ := hrel
    by_cases hp : pos < s.size
    · have hnx : ∀ ty, (Instr.next (.pointer (some ⟨w.heap.size, 0, none⟩)) true ty).run Tryz.prog (w.iter s pos) = _ := fun ty => run_next_any w s pos ty hp
      rw [decode_ascii s pos hp (HA.out pos hp)] at hnx
      simp only at hnx
      by_cases hkP : pos < P
      · have h2 : (((s[pos]'hp).toNat : Int) == 58) = false := by
          have := HN.out pos hkP (by rw [bs_len]; exact hp)
          rw [get_list hp] at this
          have h3 : (s[pos]'hp).toNat ≠ 58 := fun e => this (UInt8.toNat_inj.1 (by rw [e]; rfl))
          simp; omega
        go_wp2
        go_roundw
        case rel => exact ⟨pos + 1, rfl, by omega⟩
        case measure => simp; omega
      · obtain rfl : pos = P := by omega
        have h2 : (((s[pos]'hp).toNat : Int) == 58) = true := by
          have := HQ.out (by rw [bs_len]; exact hp)
          rw [get_list hp] at this
          rw [this]; rfl
        go_wp2
        go_ret
        exact ⟨rfl, Nw.iter _ _ _⟩
    · have hnx : ∀ ty, (Instr.next (.pointer (some ⟨w.heap.size, 0, none⟩)) true ty).run Tryz.prog (w.iter s pos) = _ := fun ty => run_next_end w s pos ty hp
      have h3 : ¬ P < s.size := by omega
      go_wp2
      go_ret
      exact ⟨rfl, Nw.iter _ _ _⟩
end Go.Proofs.YtcepdjlknalmnaaGreatDoor

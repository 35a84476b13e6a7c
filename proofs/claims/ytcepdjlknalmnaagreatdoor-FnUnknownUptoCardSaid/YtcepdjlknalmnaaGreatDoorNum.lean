/- Numbers that are read: what a number's text spells. -/
import Derived.Test.YtcepdjlknalmnaaGreatDoorShelf
import Derived.Test.YtcepdjlknalmnaaGreatDoorTxtD
import Derived.Lib.ParseIntBTie
namespace Go.Proofs.YtcepdjlknalmnaaGreatDoor
open Go.RowKit
set_option linter.unusedSimpArgs false
set_option linter.unusedVariables false

theorem Nw.bytes (w : World) (e : TypeId) (s : ByteArray) : Nw w (Lib.bytesWorld w e s) := by
  refine ⟨?_, ?_, ?_, ?_, ?_⟩
  · unfold Lib.bytesWorld World.freeze; split <;> rfl
  · unfold Lib.bytesWorld World.freeze; split <;> rfl
  · unfold Lib.bytesWorld World.freeze; split <;> rfl
  · unfold Lib.bytesWorld World.freeze; split <;> simp
  · intro k hk
    unfold Lib.bytesWorld World.freeze
    split
    · exact ((Nw.refl w).drew.alloc _).block k hk
    · show (Array.modify _ _ _)[k]? = _
      rw [Array.getElem?_modify]
      rw [if_neg (by simp; omega)]
      exact ((Nw.refl w).drew.alloc _).block k hk
theorem u8_of {d : Nat} (h : d < 10) : (UInt8.ofNat (48 + d)).toNat = 48 + d := by
  simp only [UInt8.toNat_ofNat']; omega
theorem parse_snoc {c : UInt8} {d m : Nat} (hc : c.toNat = 48 + d) (hd : d < 10) (hm : m * 10 + d < 18446744073709551616) : ∀ (l : List UInt8) (acc : Nat), Lib.parseUint10 acc l = .ok m → Lib.parseUint10 acc (l ++ [c]) = .ok (m * 10 + d)
  | [], acc, h => by
    simp only [Lib.parseUint10] at h
    injection h with h
    subst h
    simp only [List.nil_append, Lib.parseUint10, hc]
    rw [if_pos (by omega), if_neg (by omega), if_neg (by omega)]
    congr 1
    omega
  | x :: l, acc, h => by
    simp only [List.cons_append, Lib.parseUint10] at h ⊢
    split at h
    · rename_i h1
      rw [if_pos h1]
      split at h
      · cases h
      · rename_i h2
        rw [if_neg h2]
        split at h
        · cases h
        · rename_i h3
          rw [if_neg h3]
          exact parse_snoc hc hd hm l _ h
    · cases h
theorem parse_dec : ∀ (u : Nat), u < 18446744073709551616 → Lib.parseUint10 0 (Lib.decDigits u) = .ok u := by
  intro u
  induction u using Nat.strongRecOn with
  | _ u ih =>
    intro h
    rw [Lib.decDigits]
    split
    · rename_i h1
      simp only [Lib.parseUint10, u8_of h1]
      rw [if_pos (by omega), if_neg (by omega), if_neg (by omega)]
      congr 1
      omega
    · rename_i h1
      have := parse_snoc (u8_of (Nat.mod_lt u (by decide : 0 < 10))) (Nat.mod_lt u (by decide)) (m := u / 10) (by omega) _ _ (ih (u / 10) (by omega) (by omega))
      rw [this]
      congr 1
      omega
theorem dec_ne (u : Nat) : Lib.decDigits u ≠ [] := by
  rw [Lib.decDigits]
  split <;> simp
theorem mag_dec {u : Nat} (h : u < 18446744073709551616) : Lib.parseMag (Lib.decDigits u) = .ok u := by
  unfold Lib.parseMag
  rw [if_neg (dec_ne u), parse_dec u h]
theorem dec_digit (u : Nat) : ∀ c ∈ Lib.decDigits u, 48 ≤ c.toNat ∧ c.toNat ≤ 57 := by
  induction u using Nat.strongRecOn with
  | _ u ih =>
    intro c hc
    rw [Lib.decDigits] at hc
    split at hc
    · rename_i h1
      rw [List.mem_singleton.1 hc, u8_of h1]; omega
    · rename_i h1
      rcases List.mem_append.1 hc with hc | hc
      · exact ih (u / 10) (by omega) c hc
      · have := Nat.mod_lt u (by decide : 0 < 10)
        rw [List.mem_singleton.1 hc, u8_of this]; omega
theorem atoi_dec {u : Nat} (h : u < 9223372036854775808) : Lib.atoiAll (Lib.decDigits u) = .ok (u : Int) := by
  have hd := dec_digit u
  have hm := mag_dec (u := u) (by omega)
  cases hl : Lib.decDigits u with
  | nil => exact absurd hl (dec_ne u)
  | cons c r =>
    rw [hl] at hd hm
    have hc := hd c List.mem_cons_self
    simp only [Lib.atoiAll]
    rw [if_neg (by omega), hm]
    simp only
    rw [if_neg (by omega), if_neg (by omega), if_neg (by omega)]
theorem atoi_itoa {v : Int} (h0 : -9223372036854775808 < v) (h1 : v < 9223372036854775808) : Lib.atoiAll (Lib.itoa v) = .ok v := by
  unfold Lib.itoa
  split
  · have hm := mag_dec (u := v.natAbs) (by omega)
    simp only [Lib.atoiAll]
    rw [if_pos (by decide), hm]
    simp only
    rw [if_neg (by simp), if_neg (by omega), if_pos (by decide)]
    congr 1
    omega
  · rw [atoi_dec (by omega)]
    congr 1
    omega
theorem ret_pair' {a b a' b' : Value} (h : a = a') (k : b = b') : Ending.returned (.tuple #[a, b]) = .returned (.tuple #[a', b']) := by rw [h, k]
theorem par_ParseUint (n : Int) (w : World) (h : WfInt .u64 n) : Calls Tryz.prog 240 #[.string (mk ((Lib.decDigits (Int.toNat n)))), .int .i64 10, .int .i64 64] w fun e w' => e = .returned (.tuple #[.int .u64 n, .nilIface]) ∧ Nw w w' := by
  have h0 := wf_u64 h
  have hl := dec_le h
  have he : Lib.parseUintB 64 (mk ((Lib.decDigits (Int.toNat n)))).data.toList = .ok n.toNat := by
    rw [mk_list, Lib.parseUintB_64, mag_dec (by omega)]
  refine (Tryz.strconv_ParseUint_10_at64_ok (mk ((Lib.decDigits (Int.toNat n)))) (by omega) n.toNat he w).mono ?_
  rintro e w' ⟨rfl, hw⟩
  refine ⟨ret_pair' (by rw [Int.toNat_of_nonneg h0.1]) rfl, ?_⟩
  rcases hw with rfl | rfl
  · exact Nw.refl _
  · exact Nw.bytes _ _ _
theorem par_ParseInt (v : Int) (w : World) (h0 : -9223372036854775808 < v) (h1 : v < 9223372036854775808) : Calls Tryz.prog 266 #[.string (mk ((Lib.itoa v))), .int .i64 10, .int .i64 64] w fun e w' => e = .returned (.tuple #[.int .i64 v, .nilIface]) ∧ Nw w w' := by
  have hl := sgn_len (n := v) ⟨by show -9223372036854775808 ≤ v; omega, by show v ≤ 9223372036854775807; omega⟩
  have he : Lib.parseIntB 64 (mk ((Lib.itoa v))).data.toList = .ok v := by
    rw [mk_list, Lib.parseIntB_64, atoi_itoa h0 h1]
  refine (Tryz.strconv_ParseInt_10_at64_ok (mk ((Lib.itoa v))) (by omega) v he w).mono ?_
  rintro e w' ⟨rfl, hw⟩
  refine ⟨rfl, ?_⟩
  rcases hw with rfl | ⟨t, rfl⟩
  · exact Nw.refl _
  · exact Nw.bytes _ _ _
theorem par_Atoi (n : Nat) (w : World) (h : n < 9223372036854775808) : Calls Tryz.prog 257 #[.string (mk (Lib.decDigits n))] w fun e w' => e = .returned (.tuple #[.int .i64 n, .nilIface]) ∧ Nw w w' := by
  have hl := dec_len (u := n) (by omega)
  refine (Tryz.strconv_Atoi_ok (mk (Lib.decDigits n)) (by omega) n (by rw [mk_list]; exact atoi_dec h) w).mono ?_
  rintro e w' ⟨rfl, hw⟩
  refine ⟨rfl, ?_⟩
  rcases hw with rfl | ⟨t, rfl⟩
  · exact Nw.refl _
  · exact Nw.bytes _ _ _
end Go.Proofs.YtcepdjlknalmnaaGreatDoor

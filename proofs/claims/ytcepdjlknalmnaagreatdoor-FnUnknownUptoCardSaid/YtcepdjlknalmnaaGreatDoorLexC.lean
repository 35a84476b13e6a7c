/- The reader's fields and lines. -/
import Derived.Test.YtcepdjlknalmnaaGreatDoorLexB
namespace Go.Proofs.YtcepdjlknalmnaaGreatDoor
open Go.RowKit
set_option linter.unusedSimpArgs false
set_option linter.unusedVariables false

/-- Where a field ends (q), and where the next one begins (r): at a newline, or behind one blank. -/
def Stops (s : ByteArray) (q r : Nat) : Prop := ∃ c, ByteAt s q c ∧ ((isNl c = true ∧ r = q) ∨ (isNl c = false ∧ isWs c = true ∧ r = q + 1 ∧ ∃ c', ByteAt s (q + 1) c' ∧ isWs c' = false))
/-- No newline and no blank from p to q. -/
def Plain (s : ByteArray) (p q : Nat) : Prop := ∀ k, p ≤ k → k < q → ∃ ch, ByteAt s k ch ∧ isNl ch = false ∧ isWs ch = false
theorem ByteAt.lt {s : ByteArray} {p : Nat} {c : Int} (h : ByteAt s p c) : p < s.size := h.1
theorem Stops.lt {s : ByteArray} {q r : Nat} (h : Stops s q r) : q < s.size := by
  obtain ⟨c, h, _⟩ := h
  exact h.lt
set_option maxRecDepth 100000 in
set_option maxHeartbeats 1000000 in
theorem lex_readField (L : Nat) (d c : Value) (s : ByteArray) (p q r : Nat) (a : Addr) (w : World) (hL : Lx w L d c s p) (hs : WfStr s) (hE : Eof w a) (hL0 : ¬ L = 0) (hpq : p ≤ q) (hpl : Plain s p q) (hst : Stops s q r) :
    Calls Tryz.prog 173 #[.pointer (some ⟨L, 2, none⟩)] w fun e w' => e = .returned (.tuple #[.string (s.extract p q), .nilIface]) ∧ Lx w' L d c s r ∧ Fr (fun k => k = L) w w' := by
  have hq := hst.lt
  have HP := Lib.hid hpl
  have hm : s.size ≤ 1152921504606846976 := hs
  clear hpl
  have l3 := Blk.cell hL 3 rfl
  go_enter Tryz.func173, Tryz.ntmps173
  go_wp2
  go_loopg [] (q - p) (fun n wr => ∃ k, n = q - k ∧ p ≤ k ∧ k ≤ q ∧ Lx wr L d c s k ∧ Fr (fun k => k = L) w wr)
  case atStart => exact ⟨p, rfl, Nat.le_refl _, hpq, hL, Fr.refl _ _⟩
  case round =>
    obtain ⟨k, hn, h1, h2, hx, hf⟩ := hrel
    have HK := Lib.hid hn
    clear hn
    have hE1 : Eof wr a := hE.fr hf (fun e => hL0 e.symm)
    have l3 := Blk.cell hx 3 rfl
    by_cases hlt : k < q
    · obtain ⟨ch, hb, hc, hc'⟩ := HP.out k h1 hlt
      go_wp2_with (first | (go_at_call 154; (with_reducible refine (lex_readByte L d c s k ch _ hx hb hs).mono ?_); rintro e w1 ⟨rfl, hx1, hf1⟩; have g1 : w1.cell? ⟨0, 0, none⟩ = some (.iface 348 (.pointer (some a))) := hE1.fr hf1 (fun e => hL0 e.symm)) | (go_at_call 142; (with_reducible refine (is_nil a _).mono ?_); rintro e w' ⟨rfl, rfl⟩) | (go_at_call 155; (with_reducible refine (lex_isNewline ch _).mono ?_); rintro e w' ⟨rfl, rfl⟩) | (go_at_call 159; (with_reducible refine (lex_isWhitespace ch _).mono ?_); rintro e w' ⟨rfl, rfl⟩))
      go_roundg (q - (k + 1))
      case measure => have := HK.out; omega
      case rel => exact ⟨k + 1, rfl, by omega, by omega, hx1, hf.trans (hf1.mono (fun k _ e => .inl e))⟩
    · obtain rfl : k = q := by omega
      obtain ⟨ch, hb, hc⟩ := hst
      have hki : ¬ (s.size : Int) < (k : Int) := by omega
      have hpi : ¬ (k : Int) < (p : Int) := by omega
      rcases hc with ⟨hc, rfl⟩ | ⟨hc, hc', rfl, c2, hb2, hc2⟩
      · go_wp2_with (first | (go_at_call 154; (with_reducible refine (lex_readByte L d c s r ch _ hx hb hs).mono ?_); rintro e w1 ⟨rfl, hx1, hf1⟩; have g1 : w1.cell? ⟨0, 0, none⟩ = some (.iface 348 (.pointer (some a))) := hE1.fr hf1 (fun e => hL0 e.symm)) | (go_at_call 142; (with_reducible refine (is_nil a _).mono ?_); rintro e w' ⟨rfl, rfl⟩) | (go_at_call 155; (with_reducible refine (lex_isNewline ch _).mono ?_); rintro e w' ⟨rfl, rfl⟩) | (go_at_call 158; (with_reducible refine (lex_unreadByte L d c s r _ hx1 hs hq).mono ?_); rintro e w2 ⟨rfl, hx2, hf2⟩; have m2 := Blk.cell hx2 2 rfl) | (go_at_call 198; (with_reducible refine (lex_copyString _ _ _).mono ?_); rintro e w' ⟨rfl, rfl⟩))
        go_ret2
        exact ⟨rfl, hx2, (hf.trans (hf1.mono (fun k _ e => .inl e))).trans (hf2.mono (fun k _ e => .inl e))⟩
      · have hq2 := hb2.lt
        go_wp2_with (first | (go_at_call 154; (with_reducible refine (lex_readByte L d c s _ _ _ hx hb hs).mono ?_); rintro e w1 ⟨rfl, hx1, hf1⟩; have hE2 : Eof w1 a := hE1.fr hf1 (fun e => hL0 e.symm); have g1 : w1.cell? ⟨0, 0, none⟩ = some (.iface 348 (.pointer (some a))) := hE2) | (go_at_call 142; (with_reducible refine (is_nil a _).mono ?_); rintro e w' ⟨rfl, rfl⟩) | (go_at_call 155; (with_reducible refine (lex_isNewline _ _).mono ?_); rintro e w' ⟨rfl, rfl⟩) | (go_at_call 159; (with_reducible refine (lex_isWhitespace _ _).mono ?_); rintro e w' ⟨rfl, rfl⟩) | (go_at_call 160; (with_reducible refine (lex_readWhitespace L d c s (k + 1) (k + 1) a _ hx1 hs hE2 hL0 (Nat.le_refl _) (by omega) (fun j h1 h2 => by omega) (fun _ => ⟨c2, hb2, hc2⟩)).mono ?_); rintro e w2 ⟨rfl, hx2, hf2⟩; have m2 := Blk.cell hx2 2 rfl) | (go_at_call 198; (with_reducible refine (lex_copyString _ _ _).mono ?_); rintro e w' ⟨rfl, rfl⟩))
        go_ret2
        exact ⟨rfl, hx2, (hf.trans (hf1.mono (fun k _ e => .inl e))).trans (hf2.mono (fun k _ e => .inl e))⟩

/-- Digits from p to q, read as V says. -/
structure Digits (s : ByteArray) (p q : Nat) (V : Nat → Int) : Prop where
  zero : V p = 0
  low : ∀ k, 0 ≤ V k
  high : ∀ k, k ≤ q → V k < 18446744073709551616
  step : ∀ k, p ≤ k → k < q → ∃ e : Int, ByteAt s k (48 + e) ∧ 0 ≤ e ∧ e ≤ 9 ∧ V (k + 1) = V k * 10 + e
set_option maxRecDepth 100000 in
set_option maxHeartbeats 4000000 in
theorem lex_readUint64Field (L : Nat) (d c : Value) (s : ByteArray) (p q r : Nat) (V : Nat → Int) (a : Addr) (w : World) (hL : Lx w L d c s p) (hs : WfStr s) (hE : Eof w a) (hL0 : ¬ L = 0) (hpq : p ≤ q) (hV : Digits s p q V) (hst : Stops s q r) :
    Calls Tryz.prog 144 #[.pointer (some ⟨L, 2, none⟩)] w fun e w' => e = .returned (.tuple #[.int .u64 (V q), .nilIface]) ∧ Lx w' L d c s r ∧ Fr (fun k => k = L) w w' := by
  have hq := hst.lt
  have HV := Lib.hid hV
  have hm : s.size ≤ 1152921504606846976 := hs
  clear hV
  go_enter Tryz.func144, Tryz.ntmps144
  go_wp2
  go_loopg [2] (q - p) (fun n i wr => ∃ k v, n = q - k ∧ p ≤ k ∧ k ≤ q ∧ i = .int .u64 v ∧ v = V k ∧ Lx wr L d c s k ∧ Fr (fun k => k = L) w wr)
  case atStart => exact ⟨p, 0, rfl, Nat.le_refl _, hpq, rfl, HV.out.zero.symm, hL, Fr.refl _ _⟩
  case round =>
    obtain ⟨k, v, hn, h1, h2, rfl, hv, hx, hf⟩ := hrel
    have HK := Lib.hid hn
    have v0 := HV.out.low k
    have v1 := HV.out.high k h2
    rw [← hv] at v0 v1
    have HVk := Lib.hid hv
    clear hn hv
    have hE1 : Eof wr a := hE.fr hf (fun e => hL0 e.symm)
    by_cases hlt : k < q
    · obtain ⟨ch, hb, hd0, hd9, hvs⟩ := HV.out.step k h1 hlt
      rw [← HVk.out] at hvs
      have v2 := HV.out.low (k + 1)
      have v3 := HV.out.high (k + 1) (by omega)
      rw [hvs] at v2 v3
      have HS := Lib.hid hvs
      clear hvs
      have n0 : isNl (48 + ch) = false := by unfold isNl; simp; omega
      have n1 : isWs (48 + ch) = false := by unfold isWs; simp; omega
      obtain ⟨ch', hch⟩ : ∃ ch' : Int, ch' = 48 + ch := ⟨_, rfl⟩
      rw [← hch] at hb n0 n1
      have hcases : (ch = 0 ∧ ch' = 48) ∨ (ch = 1 ∧ ch' = 49) ∨ (ch = 2 ∧ ch' = 50) ∨ (ch = 3 ∧ ch' = 51) ∨ (ch = 4 ∧ ch' = 52) ∨ (ch = 5 ∧ ch' = 53) ∨ (ch = 6 ∧ ch' = 54) ∨ (ch = 7 ∧ ch' = 55) ∨ (ch = 8 ∧ ch' = 56) ∨ (ch = 9 ∧ ch' = 57) := by omega
      clear hch hd0 hd9
      rcases hcases with ⟨rfl, rfl⟩ | ⟨rfl, rfl⟩ | ⟨rfl, rfl⟩ | ⟨rfl, rfl⟩ | ⟨rfl, rfl⟩ | ⟨rfl, rfl⟩ | ⟨rfl, rfl⟩ | ⟨rfl, rfl⟩ | ⟨rfl, rfl⟩ | ⟨rfl, rfl⟩
      all_goals
        go_wp2_with (first | (go_at_call 154; (with_reducible refine (lex_readByte L d c s _ _ _ hx hb hs).mono ?_); rintro e w1 ⟨rfl, hx1, hf1⟩; have hE2 : Eof w1 a := hE1.fr hf1 (fun e => hL0 e.symm); have g1 : w1.cell? ⟨0, 0, none⟩ = some (.iface 348 (.pointer (some a))) := hE2) | (go_at_call 142; (with_reducible refine (is_nil a _).mono ?_); rintro e w' ⟨rfl, rfl⟩) | (go_at_call 155; (with_reducible refine (lex_isNewline _ _).mono ?_); rintro e w' ⟨rfl, rfl⟩) | (go_at_call 159; (with_reducible refine (lex_isWhitespace _ _).mono ?_); rintro e w' ⟨rfl, rfl⟩))
        go_roundg (q - (k + 1))
        case measure => have := HK.out; omega
        case rel => exact ⟨k + 1, _, rfl, by omega, by omega, rfl, by have := HS.out; omega, hx1, hf.trans (hf1.mono (fun k _ e => .inl e))⟩
    · obtain rfl : k = q := by omega
      obtain ⟨ch, hb, hc⟩ := hst
      rcases hc with ⟨hc, rfl⟩ | ⟨hc, hc', rfl, c2, hb2, hc2⟩
      · go_wp2_with (first | (go_at_call 154; (with_reducible refine (lex_readByte L d c s _ _ _ hx hb hs).mono ?_); rintro e w1 ⟨rfl, hx1, hf1⟩; have hE2 : Eof w1 a := hE1.fr hf1 (fun e => hL0 e.symm); have g1 : w1.cell? ⟨0, 0, none⟩ = some (.iface 348 (.pointer (some a))) := hE2) | (go_at_call 142; (with_reducible refine (is_nil a _).mono ?_); rintro e w' ⟨rfl, rfl⟩) | (go_at_call 155; (with_reducible refine (lex_isNewline _ _).mono ?_); rintro e w' ⟨rfl, rfl⟩) | (go_at_call 159; (with_reducible refine (lex_isWhitespace _ _).mono ?_); rintro e w' ⟨rfl, rfl⟩) | (go_at_call 158; (with_reducible refine (lex_unreadByte L d c s r _ hx1 hs hq).mono ?_); rintro e w2 ⟨rfl, hx2, hf2⟩))
        go_ret2
        exact ⟨ret_pair (congrArg (Value.int .u64) HVk.out) rfl, hx2, (hf.trans (hf1.mono (fun k _ e => .inl e))).trans (hf2.mono (fun k _ e => .inl e))⟩
      · have hq2 := hb2.lt
        go_wp2_with (first | (go_at_call 154; (with_reducible refine (lex_readByte L d c s _ _ _ hx hb hs).mono ?_); rintro e w1 ⟨rfl, hx1, hf1⟩; have hE2 : Eof w1 a := hE1.fr hf1 (fun e => hL0 e.symm); have g1 : w1.cell? ⟨0, 0, none⟩ = some (.iface 348 (.pointer (some a))) := hE2) | (go_at_call 142; (with_reducible refine (is_nil a _).mono ?_); rintro e w' ⟨rfl, rfl⟩) | (go_at_call 155; (with_reducible refine (lex_isNewline _ _).mono ?_); rintro e w' ⟨rfl, rfl⟩) | (go_at_call 159; (with_reducible refine (lex_isWhitespace _ _).mono ?_); rintro e w' ⟨rfl, rfl⟩) | (go_at_call 160; (with_reducible refine (lex_readWhitespace L d c s (k + 1) (k + 1) a _ hx1 hs hE2 hL0 (Nat.le_refl _) (by omega) (fun j h1 h2 => by omega) (fun _ => ⟨c2, hb2, hc2⟩)).mono ?_); rintro e w2 ⟨rfl, hx2, hf2⟩))
        go_ret2
        exact ⟨ret_pair (congrArg (Value.int .u64) HVk.out) rfl, hx2, (hf.trans (hf1.mono (fun k _ e => .inl e))).trans (hf2.mono (fun k _ e => .inl e))⟩

theorem lex_readRequiredField (L : Nat) (d c : Value) (s : ByteArray) (p q r : Nat) (a : Addr) (w : World) (hL : Lx w L d c s p) (hs : WfStr s) (hE : Eof w a) (hL0 : ¬ L = 0) (hpq : p < q) (hpl : Plain s p q) (hst : Stops s q r) :
    Calls Tryz.prog 200 #[.pointer (some ⟨L, 0, none⟩)] w fun e w' => e = .returned (.tuple #[.string (s.extract p q), .nilIface]) ∧ Lx w' L d c s r ∧ Fr (fun k => k = L) w w' := by
  have he : (s.extract p q).toList.isEmpty = false := by
    rw [is_empty]
    have := hst.lt
    simp only [ByteArray.size_extract, decide_eq_false_iff_not]
    omega
  go_enter Tryz.func200, Tryz.ntmps200
  go_wp2_with (go_at_call 173; (with_reducible refine (lex_readField L d c s p q r a _ hL hs hE hL0 (Nat.le_of_lt hpq) hpl hst).mono ?_); rintro e w1 ⟨rfl, hx1, hf1⟩)
  go_ret2
  exact ⟨rfl, hx1, hf1⟩

/-- No line feed, no carriage return from p to q. -/
def Whole (s : ByteArray) (p q : Nat) : Prop := ∀ k, p ≤ k → k < q → ∃ ch, ByteAt s k ch ∧ isNl ch = false
/-- A line's end at q, the next line at r. -/
def LineEnd (s : ByteArray) (q r : Nat) : Prop := (ByteAt s q 10 ∧ r = q + 1) ∨ (ByteAt s q 13 ∧ ByteAt s (q + 1) 10 ∧ r = q + 2)
theorem LineEnd.lt {s : ByteArray} {q r : Nat} (h : LineEnd s q r) : q < s.size ∧ q < r ∧ r ≤ s.size := by
  rcases h with ⟨h, rfl⟩ | ⟨h, h', rfl⟩
  · have := h.lt; omega
  · have := h'.lt; omega
theorem lex_copyString' (v : Value) (s : ByteArray) (w : World) : Calls Tryz.prog 198 #[v, .string s] w fun e w' => e = .returned (.string s) ∧ w' = w := (lex_copyString v s w).mono (fun _ _ h => ⟨h.1, h.2.symm⟩)
set_option maxRecDepth 100000 in
set_option maxHeartbeats 1000000 in
theorem lex_readLine (L : Nat) (d c : Value) (s : ByteArray) (p q r : Nat) (w : World) (hL : Lx w L d c s p) (hs : WfStr s) (hpq : p ≤ q) (hpl : Whole s p q) (hst : LineEnd s q r) :
    Calls Tryz.prog 213 #[.pointer (some ⟨L, 2, none⟩)] w fun e w' => e = .returned (.tuple #[.string (s.extract p q), .nilIface]) ∧ Lx w' L d c s r ∧ Fr (fun k => k = L) w w' := by
  have hq := hst.lt
  have HP := Lib.hid hpl
  have hm : s.size ≤ 1152921504606846976 := hs
  clear hpl
  have l3 := Blk.cell hL 3 rfl
  go_enter Tryz.func213, Tryz.ntmps213
  go_wp2
  go_loopg [5] (r - p) (fun n i wr => ∃ k t, n = r - k ∧ p ≤ k ∧ k < r ∧ i = .int .i64 t ∧ t = 1 + ((k - q : Nat) : Int) ∧ Lx wr L d c s k ∧ Fr (fun k => k = L) w wr)
  case atStart => exact ⟨p, 1, rfl, Nat.le_refl _, by omega, rfl, by omega, hL, Fr.refl _ _⟩
  case round =>
    obtain ⟨k, t, hn, h1, h2, rfl, ht, hx, hf⟩ := hrel
    have HK := Lib.hid hn
    clear hn
    by_cases hlt : k < q
    · obtain rfl : t = 1 := by omega
      obtain ⟨ch, hb, hc⟩ := HP.out k h1 hlt
      clear ht
      have c1 : (ch == 13) = false := by unfold isNl at hc; simp at hc ⊢; omega
      have c2 : (ch == 10) = false := by unfold isNl at hc; simp at hc ⊢; omega
      clear hc
      go_wp2_with (go_at_call 154; (with_reducible refine (lex_readByte L d c s k ch _ hx hb hs).mono ?_); rintro e w1 ⟨rfl, hx1, hf1⟩)
      go_roundg (r - (k + 1))
      case measure => have := HK.out; omega
      case rel => exact ⟨k + 1, 1, rfl, by omega, by omega, rfl, by omega, hx1, hf.trans (hf1.mono (fun k _ e => .inl e))⟩
    · have hsub : ∀ (j : Nat) (z : Int), z = (j : Int) → z.toNat = j := fun j z h => by omega
      rcases hst with ⟨hb, rfl⟩ | ⟨hb, hb', rfl⟩
      · obtain rfl : k = q := by omega
        obtain rfl : t = 1 := by omega
        clear ht
        go_wp2_with (go_at_call 154; (with_reducible refine (lex_readByte L d c s k 10 _ hx hb hs).mono ?_); rintro e w1 ⟨rfl, hx1, hf1⟩; have m2 := Blk.cell hx1 2 rfl; have m3 := Blk.cell hx1 3 rfl)
        have m3' : w1.cell? ⟨L, 3, none⟩ = some (.int .i64 ((k : Int) + 1)) := m3
        clear m3
        have hw : IntKind.i64.wrap ((k : Int) + 1 - 1) = (k : Int) := by
          rw [IntWalk.i64_in _ (by omega)]; omega
        have b1 : (0 : Int) ≤ (p : Int) := by omega
        have b2 : (p : Int) ≤ (k : Int) := by omega
        have b3 : (k : Int) ≤ (s.size : Int) := by omega
        go_quiet ((go_at_call 198; exact Calls.quiet_of_same (lex_copyString' _ _ _)))
        go_wp2
        go_ret2
        exact ⟨rfl, Blk.drewN hx1 _, (hf.trans (hf1.mono (fun k _ e => .inl e))).drewN _⟩
      · by_cases hk : k = q
        · subst hk
          obtain rfl : t = 1 := by omega
          clear ht
          go_wp2_with (go_at_call 154; (with_reducible refine (lex_readByte L d c s k 13 _ hx hb hs).mono ?_); rintro e w1 ⟨rfl, hx1, hf1⟩)
          go_roundg (k + 2 - (k + 1))
          case measure => have := HK.out; omega
          case rel => exact ⟨k + 1, 2, rfl, by omega, by omega, rfl, by omega, hx1, hf.trans (hf1.mono (fun k _ e => .inl e))⟩
        · obtain rfl : k = q + 1 := by omega
          obtain rfl : t = 2 := by omega
          clear ht hk hlt h2
          go_wp2_with (go_at_call 154; (with_reducible refine (lex_readByte L d c s (q + 1) 10 _ hx hb' hs).mono ?_); rintro e w1 ⟨rfl, hx1, hf1⟩; have m2 := Blk.cell hx1 2 rfl; have m3 := Blk.cell hx1 3 rfl)
          have m3' : w1.cell? ⟨L, 3, none⟩ = some (.int .i64 ((q : Int) + 2)) := m3
          clear m3
          have hw : IntKind.i64.wrap ((q : Int) + 2 - 2) = (q : Int) := by
            rw [IntWalk.i64_in _ (by omega)]; omega
          have b1 : (0 : Int) ≤ (p : Int) := by omega
          have b2 : (p : Int) ≤ (q : Int) := by omega
          have b3 : (q : Int) ≤ (s.size : Int) := by omega
          go_quiet ((go_at_call 198; exact Calls.quiet_of_same (lex_copyString' _ _ _)))
          go_wp2
          go_ret2
          exact ⟨rfl, Blk.drewN hx1 _, (hf.trans (hf1.mono (fun k _ e => .inl e))).drewN _⟩
/-- The type of the next line. -/
theorem lex_readType (L : Nat) (d c : Value) (s : ByteArray) (p : Nat) (ch : Int) (w : World) (hL : Lx w L d c s p) (hs : WfStr s) (hb : ByteAt s p ch) (hc : isNl ch = false) (hb' : ByteAt s (p + 1) 61) :
    Calls Tryz.prog 141 #[.pointer (some ⟨L, 2, none⟩)] w fun e w' => e = .returned (.tuple #[.int .u8 ch, .nilIface]) ∧ Lx w' L d c s (p + 2) ∧ Fr (fun k => k = L) w w' := by
  go_enter Tryz.func141, Tryz.ntmps141
  go_wp2
  go_loopg [] 1 (fun n wr => n = 1 ∧ wr = w)
  case atStart => exact ⟨rfl, rfl⟩
  case round =>
    obtain ⟨hn, rfl⟩ := hrel
    clear hn
    go_wp2_with (first | (go_at_call 155; (with_reducible refine (lex_isNewline _ _).mono ?_); rintro e w' ⟨rfl, rfl⟩) | (go_at_call 154; (with_reducible refine (lex_readByte L d c s p ch _ hL hb hs).mono ?_); rintro e w1 ⟨rfl, hx1, hf1⟩) | (go_at_call 154; (with_reducible refine (lex_readByte L d c s (p + 1) 61 _ hx1 hb' hs).mono ?_); rintro e w2 ⟨rfl, hx2, hf2⟩))
    go_ret2
    exact ⟨rfl, hx2, hf1.trans (hf2.mono (fun k _ e => .inl e))⟩
theorem lex_readType_end (L : Nat) (d c : Value) (s : ByteArray) (a : Addr) (w : World) (hL : Lx w L d c s s.size) (hs : WfStr s) (hE : Eof w a) :
    Calls Tryz.prog 141 #[.pointer (some ⟨L, 2, none⟩)] w fun e w' => e = .returned (.tuple #[.int .u8 0, .iface 348 (.pointer (some a))]) ∧ Lx w' L d c s s.size ∧ Fr (fun k => k = L) w w' := by
  go_enter Tryz.func141, Tryz.ntmps141
  go_wp2
  go_loopg [] 1 (fun n wr => n = 1 ∧ wr = w)
  case atStart => exact ⟨rfl, rfl⟩
  case round =>
    obtain ⟨hn, rfl⟩ := hrel
    clear hn
    have hnn : ∀ (v : Value) (w : World), (binOp .neq 118 (.iface 348 v) .nilIface).run Tryz.prog w = .ok (.bool true) w := fun v w => by kernel_rfl
    go_wp2_with (first | (go_at_call 154; (with_reducible refine (lex_readByte_end L d c s a _ hL hs hE).mono ?_); rintro e w1 ⟨rfl, hx1, hf1⟩))
    go_ret2
    exact ⟨rfl, hx1, hf1⟩
end Go.Proofs.YtcepdjlknalmnaaGreatDoor

/- Unmarshal at the lines of a proper session, whole. -/
import Derived.Test.YtcepdjlknalmnaaGreatDoorUnw
import Derived.Test.YtcepdjlknalmnaaGreatDoorPlg
import Derived.Test.YtcepdjlknalmnaaGreatDoorBnd
import Derived.Test.YtcepdjlknalmnaaGreatDoorStf
import Derived.Test.YtcepdjlknalmnaaGreatDoorMedD
import Derived.Deep.LoopGhost
import Derived.Deep.RegionHeld3
import Derived.Deep.RegionLaw
import Derived.IntWalk
import Derived.LaidEql
import Derived.Lib.ParseIntBTie
import Derived.RowKitTokens
import Derived.Stop.Asserts
import Derived.Test.YtcepdjlknalmnaaGreatDoorLexC
import Derived.Test.YtcepdjlknalmnaaGreatDoorLks
import Derived.Test.YtcepdjlknalmnaaGreatDoorLns
import Derived.Test.YtcepdjlknalmnaaGreatDoorNum
import Derived.Test.YtcepdjlknalmnaaGreatDoorOwn
import Derived.Test.YtcepdjlknalmnaaGreatDoorPar
import Derived.Test.YtcepdjlknalmnaaGreatDoorSdp
import Derived.Test.YtcepdjlknalmnaaGreatDoorSegs
import Derived.Test.YtcepdjlknalmnaaGreatDoorStepE
import Derived.Test.YtcepdjlknalmnaaGreatDoorStepG
import Derived.Test.YtcepdjlknalmnaaGreatDoorTxtD
import Derived.WalkLawsBesides
namespace Go.Proofs.YtcepdjlknalmnaaGreatDoor
open Go.RowKit
set_option linter.unusedSimpArgs false
set_option linter.unusedVariables false
theorem lex_isWhitespace (c : Int) (w : World) : Calls Tryz.prog 159 #[.int .u8 c] w fun e w' => e = .returned (.bool (isWs c)) ∧ w = w' := by
 go_enter Tryz.func159, Tryz.ntmps159
 by_cases h1 : (c == 32) = true
 · go_wp2
   go_ret
   exact ⟨ret_bool (by unfold isWs; rw [h1]; rfl), rfl⟩
 · have h1' : (c == 32) = false := by simpa using h1
   clear h1
   by_cases h2 : (c == 9) = true
   · go_wp2
     go_ret
     exact ⟨ret_bool (by unfold isWs; rw [h1', h2]; rfl), rfl⟩
   · have h2' : (c == 9) = false := by simpa using h2
     clear h2
     go_wp2
     go_ret
     exact ⟨ret_bool (by unfold isWs; rw [h1', h2']; rfl), rfl⟩
theorem lex_unreadByte (L : Nat) (d c : Value) (s : ByteArray) (p : Nat) (w : World) (hL : Lx w L d c s (p + 1)) (hs : WfStr s) (hp : p < s.size) :
 Calls Tryz.prog 158 #[.pointer (some ⟨L, 2, none⟩)] w fun e w' => e = .returned .nilIface ∧ Lx w' L d c s p ∧ Fr (fun k => k = L) w w' := by
 have hm : s.size ≤ 1152921504606846976 := hs
 have l3 := Blk.cell hL 3 rfl
 have f3 := Blk.fz hL 3
 obtain ⟨q, hq⟩ : ∃ q : Int, q = ((p + 1 : Nat) : Int) := ⟨_, rfl⟩
 rw [← hq] at l3
 have h1 : (0 : Int) < q := by omega
 have h2 : q ≤ 1152921504606846976 := by omega
 have HQ := Lib.hid hq
 clear hq
 go_enter Tryz.func158, Tryz.ntmps158
 go_wp2
 go_ret
 exact ⟨rfl, Lx.put hL (by have := HQ.out; omega), by (repeat (first | (with_reducible assumption) | (with_reducible exact Fr.refl _ _) | (with_reducible refine Fr.drew ?_) | (with_reducible refine Fr.drewN ?_ _) | (with_reducible refine Fr.alloc ?_ _) | (with_reducible refine Fr.put ?_ _)))⟩
theorem lex_copyString (v : Value) (s : ByteArray) (w : World) : Calls Tryz.prog 198 #[v, .string s] w fun e w' => e = .returned (.string s) ∧ w = w' := by
 go_enter Tryz.func198, Tryz.ntmps198
 go_wp2
 go_ret
 exact ⟨rfl, rfl⟩
theorem lex_nextLine (L : Nat) (d c : Value) (s : ByteArray) (p q : Nat) (a : Addr) (w : World) (hL : Lx w L d c s p) (hs : WfStr s) (hE : Eof w a) (hL0 : ¬ L = 0) (hpq : p ≤ q) (hq : q ≤ s.size)
 (hnl : ∀ k, p ≤ k → k < q → ∃ ch, ByteAt s k ch ∧ isNl ch = true) (hend : q < s.size → ∃ ch, ByteAt s q ch ∧ isNl ch = false) :
 Calls Tryz.prog 145 #[.pointer (some ⟨L, 2, none⟩)] w fun e w' => e = .returned .nilIface ∧ Lx w' L d c s q ∧ Fr (fun k => k = L) w w' := by
 have HN := Lib.hid hnl
 have HE := Lib.hid hend
 clear hnl hend
 go_enter Tryz.func145, Tryz.ntmps145
 go_wp2
 go_loopg [] (q - p) (fun n wr => ∃ k, n = q - k ∧ p ≤ k ∧ k ≤ q ∧ Lx wr L d c s k ∧ Fr (fun k => k = L) w wr)
 case atStart => exact ⟨p, rfl, Nat.le_refl _, hpq, hL, Fr.refl _ _⟩
 case round =>
  obtain ⟨k, hn, h1, h2, hx, hf⟩ := hrel
  have HK := Lib.hid hn
  clear hn
  have hE1 : Eof wr a := hE.fr hf (fun e => hL0 e.symm)
  by_cases hlt : k < q
  · obtain ⟨ch, hb, hc⟩ := HN.out k h1 hlt
    go_wp2_with (first | (go_at_call 154; (with_reducible refine (lex_readByte L d c s k ch _ hx hb hs).mono ?_); rintro e w1 ⟨rfl, hx1, hf1⟩; have g1 : w1.cell? ⟨0, 0, none⟩ = some (.iface 348 (.pointer (some a))) := hE1.fr hf1 (fun e => hL0 e.symm)) | (go_at_call 142; (with_reducible refine (is_nil a _).mono ?_); rintro e w' ⟨rfl, rfl⟩) | (go_at_call 155; (with_reducible refine (lex_isNewline ch _).mono ?_); rintro e w' ⟨rfl, rfl⟩))
    go_roundg (q - (k + 1))
    case measure => have := HK.out; omega
    case rel => exact ⟨k + 1, rfl, by omega, by omega, hx1, hf.trans (hf1.mono (fun k _ e => .inl e))⟩
  · obtain rfl : k = q := by omega
    by_cases he : k < s.size
    · obtain ⟨ch, hb, hc⟩ := HE.out he
      go_wp2_with (first | (go_at_call 154; (with_reducible refine (lex_readByte L d c s k ch _ hx hb hs).mono ?_); rintro e w1 ⟨rfl, hx1, hf1⟩; have g1 : w1.cell? ⟨0, 0, none⟩ = some (.iface 348 (.pointer (some a))) := hE1.fr hf1 (fun e => hL0 e.symm)) | (go_at_call 142; (with_reducible refine (is_nil a _).mono ?_); rintro e w' ⟨rfl, rfl⟩) | (go_at_call 155; (with_reducible refine (lex_isNewline ch _).mono ?_); rintro e w' ⟨rfl, rfl⟩) | (go_at_call 158; (with_reducible refine (lex_unreadByte L d c s k _ hx1 hs he).mono ?_); rintro e w2 ⟨rfl, hx2, hf2⟩))
      go_ret
      exact ⟨rfl, hx2, (hf.trans (hf1.mono (fun k _ e => .inl e))).trans (hf2.mono (fun k _ e => .inl e))⟩
    · obtain rfl : k = s.size := by omega
      go_wp2_with (first | (go_at_call 154; (with_reducible refine (lex_readByte_end L d c s a _ hx hs hE1).mono ?_); rintro e w1 ⟨rfl, hx1, hf1⟩; have g1 : w1.cell? ⟨0, 0, none⟩ = some (.iface 348 (.pointer (some a))) := hE1.fr hf1 (fun e => hL0 e.symm)) | (go_at_call 142; (with_reducible refine (is_same a _).mono ?_); rintro e w' ⟨rfl, rfl⟩))
      go_ret
      exact ⟨rfl, hx1, hf.trans (hf1.mono (fun k _ e => .inl e))⟩
theorem lex_readWhitespace (L : Nat) (d c : Value) (s : ByteArray) (p q : Nat) (a : Addr) (w : World) (hL : Lx w L d c s p) (hs : WfStr s) (hE : Eof w a) (hL0 : ¬ L = 0) (hpq : p ≤ q) (hq : q ≤ s.size)
 (hnl : ∀ k, p ≤ k → k < q → ∃ ch, ByteAt s k ch ∧ isWs ch = true) (hend : q < s.size → ∃ ch, ByteAt s q ch ∧ isWs ch = false) :
 Calls Tryz.prog 160 #[.pointer (some ⟨L, 2, none⟩)] w fun e w' => e = .returned .nilIface ∧ Lx w' L d c s q ∧ Fr (fun k => k = L) w w' := by
 have HN := Lib.hid hnl
 have HE := Lib.hid hend
 clear hnl hend
 go_enter Tryz.func160, Tryz.ntmps160
 go_wp2
 go_loopg [] (q - p) (fun n wr => ∃ k, n = q - k ∧ p ≤ k ∧ k ≤ q ∧ Lx wr L d c s k ∧ Fr (fun k => k = L) w wr)
 case atStart => exact ⟨p, rfl, Nat.le_refl _, hpq, hL, Fr.refl _ _⟩
 case round =>
  obtain ⟨k, hn, h1, h2, hx, hf⟩ := hrel
  have HK := Lib.hid hn
  clear hn
  have hE1 : Eof wr a := hE.fr hf (fun e => hL0 e.symm)
  by_cases hlt : k < q
  · obtain ⟨ch, hb, hc⟩ := HN.out k h1 hlt
    go_wp2_with (first | (go_at_call 154; (with_reducible refine (lex_readByte L d c s k ch _ hx hb hs).mono ?_); rintro e w1 ⟨rfl, hx1, hf1⟩; have g1 : w1.cell? ⟨0, 0, none⟩ = some (.iface 348 (.pointer (some a))) := hE1.fr hf1 (fun e => hL0 e.symm)) | (go_at_call 142; (with_reducible refine (is_nil a _).mono ?_); rintro e w' ⟨rfl, rfl⟩) | (go_at_call 159; (with_reducible refine (lex_isWhitespace ch _).mono ?_); rintro e w' ⟨rfl, rfl⟩))
    go_roundg (q - (k + 1))
    case measure => have := HK.out; omega
    case rel => exact ⟨k + 1, rfl, by omega, by omega, hx1, hf.trans (hf1.mono (fun k _ e => .inl e))⟩
  · obtain rfl : k = q := by omega
    by_cases he : k < s.size
    · obtain ⟨ch, hb, hc⟩ := HE.out he
      go_wp2_with (first | (go_at_call 154; (with_reducible refine (lex_readByte L d c s k ch _ hx hb hs).mono ?_); rintro e w1 ⟨rfl, hx1, hf1⟩; have g1 : w1.cell? ⟨0, 0, none⟩ = some (.iface 348 (.pointer (some a))) := hE1.fr hf1 (fun e => hL0 e.symm)) | (go_at_call 142; (with_reducible refine (is_nil a _).mono ?_); rintro e w' ⟨rfl, rfl⟩) | (go_at_call 159; (with_reducible refine (lex_isWhitespace ch _).mono ?_); rintro e w' ⟨rfl, rfl⟩) | (go_at_call 158; (with_reducible refine (lex_unreadByte L d c s k _ hx1 hs he).mono ?_); rintro e w2 ⟨rfl, hx2, hf2⟩))
      go_ret
      exact ⟨rfl, hx2, (hf.trans (hf1.mono (fun k _ e => .inl e))).trans (hf2.mono (fun k _ e => .inl e))⟩
    · obtain rfl : k = s.size := by omega
      go_wp2_with (first | (go_at_call 154; (with_reducible refine (lex_readByte_end L d c s a _ hx hs hE1).mono ?_); rintro e w1 ⟨rfl, hx1, hf1⟩; have g1 : w1.cell? ⟨0, 0, none⟩ = some (.iface 348 (.pointer (some a))) := hE1.fr hf1 (fun e => hL0 e.symm)) | (go_at_call 142; (with_reducible refine (is_same a _).mono ?_); rintro e w' ⟨rfl, rfl⟩))
      go_ret
      exact ⟨rfl, hx1, hf.trans (hf1.mono (fun k _ e => .inl e))⟩
end Go.Proofs.YtcepdjlknalmnaaGreatDoor
namespace Go.Proofs.YtcepdjlknalmnaaGreatDoor
open Go.RowKit
set_option linter.unusedSimpArgs false
set_option linter.unusedVariables false
set_option maxRecDepth 100000 in
set_option maxHeartbeats 1000000 in
theorem lex_readField (L : Nat) (d c : Value) (s : ByteArray) (p q r : Nat) (a : Addr) (w : World) (hL : Lx w L d c s p) (hs : WfStr s) (hE : Eof w a) (hL0 : ¬ L = 0) (hpq : p ≤ q) (hpl : Plain s p q) (hst : Stops s q r) :
 Calls Tryz.prog 173 #[.pointer (some ⟨L, 2, none⟩)] w fun e w' => e = .returned (.tuple #[.string (s.extract p q), .nilIface]) ∧ Lx w' L d c s r ∧ Fr (fun k => k = L) w w' := by
 have hq := hst.lt
 have HP := Lib.hid hpl
 have hm : s.size ≤ 1152921504606846976 := hs
 clear hpl
 have l3 := Blk.cell hL 3 rfl
 go_enter Tryz.func173, Tryz.ntmps173
 go_wp2
 go_loopg [] (q - p) (fun n wr => ∃ k, n = q - k ∧ p ≤ k ∧ k ≤ q ∧ Lx wr L d c s k ∧ Fr (fun k => k = L) w wr)
 case atStart => exact ⟨p, rfl, Nat.le_refl _, hpq, hL, Fr.refl _ _⟩
 case round =>
  obtain ⟨k, hn, h1, h2, hx, hf⟩ := hrel
  have HK := Lib.hid hn
  clear hn
  have hE1 : Eof wr a := hE.fr hf (fun e => hL0 e.symm)
  have l3 := Blk.cell hx 3 rfl
  by_cases hlt : k < q
  · obtain ⟨ch, hb, hc, hc'⟩ := HP.out k h1 hlt
    go_wp2_with (first | (go_at_call 154; (with_reducible refine (lex_readByte L d c s k ch _ hx hb hs).mono ?_); rintro e w1 ⟨rfl, hx1, hf1⟩; have g1 : w1.cell? ⟨0, 0, none⟩ = some (.iface 348 (.pointer (some a))) := hE1.fr hf1 (fun e => hL0 e.symm)) | (go_at_call 142; (with_reducible refine (is_nil a _).mono ?_); rintro e w' ⟨rfl, rfl⟩) | (go_at_call 155; (with_reducible refine (lex_isNewline ch _).mono ?_); rintro e w' ⟨rfl, rfl⟩) | (go_at_call 159; (with_reducible refine (lex_isWhitespace ch _).mono ?_); rintro e w' ⟨rfl, rfl⟩))
    go_roundg (q - (k + 1))
    case measure => have := HK.out; omega
    case rel => exact ⟨k + 1, rfl, by omega, by omega, hx1, hf.trans (hf1.mono (fun k _ e => .inl e))⟩
  · obtain rfl : k = q := by omega
    obtain ⟨ch, hb, hc⟩ := hst
    have hki : ¬ (s.size : Int) < (k : Int) := by omega
    have hpi : ¬ (k : Int) < (p : Int) := by omega
    rcases hc with ⟨hc, rfl⟩ | ⟨hc, hc', rfl, c2, hb2, hc2⟩
    · go_wp2_with (first | (go_at_call 154; (with_reducible refine (lex_readByte L d c s r ch _ hx hb hs).mono ?_); rintro e w1 ⟨rfl, hx1, hf1⟩; have g1 : w1.cell? ⟨0, 0, none⟩ = some (.iface 348 (.pointer (some a))) := hE1.fr hf1 (fun e => hL0 e.symm)) | (go_at_call 142; (with_reducible refine (is_nil a _).mono ?_); rintro e w' ⟨rfl, rfl⟩) | (go_at_call 155; (with_reducible refine (lex_isNewline ch _).mono ?_); rintro e w' ⟨rfl, rfl⟩) | (go_at_call 158; (with_reducible refine (lex_unreadByte L d c s r _ hx1 hs hq).mono ?_); rintro e w2 ⟨rfl, hx2, hf2⟩; have m2 := Blk.cell hx2 2 rfl) | (go_at_call 198; (with_reducible refine (lex_copyString _ _ _).mono ?_); rintro e w' ⟨rfl, rfl⟩))
      go_ret2
      exact ⟨rfl, hx2, (hf.trans (hf1.mono (fun k _ e => .inl e))).trans (hf2.mono (fun k _ e => .inl e))⟩
    · have hq2 := hb2.lt
      go_wp2_with (first | (go_at_call 154; (with_reducible refine (lex_readByte L d c s _ _ _ hx hb hs).mono ?_); rintro e w1 ⟨rfl, hx1, hf1⟩; have hE2 : Eof w1 a := hE1.fr hf1 (fun e => hL0 e.symm); have g1 : w1.cell? ⟨0, 0, none⟩ = some (.iface 348 (.pointer (some a))) := hE2) | (go_at_call 142; (with_reducible refine (is_nil a _).mono ?_); rintro e w' ⟨rfl, rfl⟩) | (go_at_call 155; (with_reducible refine (lex_isNewline _ _).mono ?_); rintro e w' ⟨rfl, rfl⟩) | (go_at_call 159; (with_reducible refine (lex_isWhitespace _ _).mono ?_); rintro e w' ⟨rfl, rfl⟩) | (go_at_call 160; (with_reducible refine (lex_readWhitespace L d c s (k + 1) (k + 1) a _ hx1 hs hE2 hL0 (Nat.le_refl _) (by omega) (fun j h1 h2 => by omega) (fun _ => ⟨c2, hb2, hc2⟩)).mono ?_); rintro e w2 ⟨rfl, hx2, hf2⟩; have m2 := Blk.cell hx2 2 rfl) | (go_at_call 198; (with_reducible refine (lex_copyString _ _ _).mono ?_); rintro e w' ⟨rfl, rfl⟩))
      go_ret2
      exact ⟨rfl, hx2, (hf.trans (hf1.mono (fun k _ e => .inl e))).trans (hf2.mono (fun k _ e => .inl e))⟩
set_option maxRecDepth 100000 in
set_option maxHeartbeats 4000000 in
theorem lex_readUint64Field (L : Nat) (d c : Value) (s : ByteArray) (p q r : Nat) (V : Nat → Int) (a : Addr) (w : World) (hL : Lx w L d c s p) (hs : WfStr s) (hE : Eof w a) (hL0 : ¬ L = 0) (hpq : p ≤ q) (hV : Digits s p q V) (hst : Stops s q r) :
 Calls Tryz.prog 144 #[.pointer (some ⟨L, 2, none⟩)] w fun e w' => e = .returned (.tuple #[.int .u64 (V q), .nilIface]) ∧ Lx w' L d c s r ∧ Fr (fun k => k = L) w w' := by
 have hq := hst.lt
 have HV := Lib.hid hV
 have hm : s.size ≤ 1152921504606846976 := hs
 clear hV
 go_enter Tryz.func144, Tryz.ntmps144
 go_wp2
 go_loopg [2] (q - p) (fun n i wr => ∃ k v, n = q - k ∧ p ≤ k ∧ k ≤ q ∧ i = .int .u64 v ∧ v = V k ∧ Lx wr L d c s k ∧ Fr (fun k => k = L) w wr)
 case atStart => exact ⟨p, 0, rfl, Nat.le_refl _, hpq, rfl, HV.out.zero.symm, hL, Fr.refl _ _⟩
 case round =>
  obtain ⟨k, v, hn, h1, h2, rfl, hv, hx, hf⟩ := hrel
  have HK := Lib.hid hn
  have v0 := HV.out.low k
  have v1 := HV.out.high k h2
  rw [← hv] at v0 v1
  have HVk := Lib.hid hv
  clear hn hv
  have hE1 : Eof wr a := hE.fr hf (fun e => hL0 e.symm)
  by_cases hlt : k < q
  · obtain ⟨ch, hb, hd0, hd9, hvs⟩ := HV.out.step k h1 hlt
    rw [← HVk.out] at hvs
    have v2 := HV.out.low (k + 1)
    have v3 := HV.out.high (k + 1) (by omega)
    rw [hvs] at v2 v3
    have HS := Lib.hid hvs
    clear hvs
    have n0 : isNl (48 + ch) = false := by unfold isNl; simp; omega
    have n1 : isWs (48 + ch) = false := by unfold isWs; simp; omega
    obtain ⟨ch', hch⟩ : ∃ ch' : Int, ch' = 48 + ch := ⟨_, rfl⟩
    rw [← hch] at hb n0 n1
    have hcases : (ch = 0 ∧ ch' = 48) ∨ (ch = 1 ∧ ch' = 49) ∨ (ch = 2 ∧ ch' = 50) ∨ (ch = 3 ∧ ch' = 51) ∨ (ch = 4 ∧ ch' = 52) ∨ (ch = 5 ∧ ch' = 53) ∨ (ch = 6 ∧ ch' = 54) ∨ (ch = 7 ∧ ch' = 55) ∨ (ch = 8 ∧ ch' = 56) ∨ (ch = 9 ∧ ch' = 57) := by omega
    clear hch hd0 hd9
    rcases hcases with ⟨rfl, rfl⟩ | ⟨rfl, rfl⟩ | ⟨rfl, rfl⟩ | ⟨rfl, rfl⟩ | ⟨rfl, rfl⟩ | ⟨rfl, rfl⟩ | ⟨rfl, rfl⟩ | ⟨rfl, rfl⟩ | ⟨rfl, rfl⟩ | ⟨rfl, rfl⟩
    all_goals
     go_wp2_with (first | (go_at_call 154; (with_reducible refine (lex_readByte L d c s _ _ _ hx hb hs).mono ?_); rintro e w1 ⟨rfl, hx1, hf1⟩; have hE2 : Eof w1 a := hE1.fr hf1 (fun e => hL0 e.symm); have g1 : w1.cell? ⟨0, 0, none⟩ = some (.iface 348 (.pointer (some a))) := hE2) | (go_at_call 142; (with_reducible refine (is_nil a _).mono ?_); rintro e w' ⟨rfl, rfl⟩) | (go_at_call 155; (with_reducible refine (lex_isNewline _ _).mono ?_); rintro e w' ⟨rfl, rfl⟩) | (go_at_call 159; (with_reducible refine (lex_isWhitespace _ _).mono ?_); rintro e w' ⟨rfl, rfl⟩))
     go_roundg (q - (k + 1))
     case measure => have := HK.out; omega
     case rel => exact ⟨k + 1, _, rfl, by omega, by omega, rfl, by have := HS.out; omega, hx1, hf.trans (hf1.mono (fun k _ e => .inl e))⟩
  · obtain rfl : k = q := by omega
    obtain ⟨ch, hb, hc⟩ := hst
    rcases hc with ⟨hc, rfl⟩ | ⟨hc, hc', rfl, c2, hb2, hc2⟩
    · go_wp2_with (first | (go_at_call 154; (with_reducible refine (lex_readByte L d c s _ _ _ hx hb hs).mono ?_); rintro e w1 ⟨rfl, hx1, hf1⟩; have hE2 : Eof w1 a := hE1.fr hf1 (fun e => hL0 e.symm); have g1 : w1.cell? ⟨0, 0, none⟩ = some (.iface 348 (.pointer (some a))) := hE2) | (go_at_call 142; (with_reducible refine (is_nil a _).mono ?_); rintro e w' ⟨rfl, rfl⟩) | (go_at_call 155; (with_reducible refine (lex_isNewline _ _).mono ?_); rintro e w' ⟨rfl, rfl⟩) | (go_at_call 159; (with_reducible refine (lex_isWhitespace _ _).mono ?_); rintro e w' ⟨rfl, rfl⟩) | (go_at_call 158; (with_reducible refine (lex_unreadByte L d c s r _ hx1 hs hq).mono ?_); rintro e w2 ⟨rfl, hx2, hf2⟩))
      go_ret2
      exact ⟨ret_pair (congrArg (Value.int .u64) HVk.out) rfl, hx2, (hf.trans (hf1.mono (fun k _ e => .inl e))).trans (hf2.mono (fun k _ e => .inl e))⟩
    · have hq2 := hb2.lt
      go_wp2_with (first | (go_at_call 154; (with_reducible refine (lex_readByte L d c s _ _ _ hx hb hs).mono ?_); rintro e w1 ⟨rfl, hx1, hf1⟩; have hE2 : Eof w1 a := hE1.fr hf1 (fun e => hL0 e.symm); have g1 : w1.cell? ⟨0, 0, none⟩ = some (.iface 348 (.pointer (some a))) := hE2) | (go_at_call 142; (with_reducible refine (is_nil a _).mono ?_); rintro e w' ⟨rfl, rfl⟩) | (go_at_call 155; (with_reducible refine (lex_isNewline _ _).mono ?_); rintro e w' ⟨rfl, rfl⟩) | (go_at_call 159; (with_reducible refine (lex_isWhitespace _ _).mono ?_); rintro e w' ⟨rfl, rfl⟩) | (go_at_call 160; (with_reducible refine (lex_readWhitespace L d c s (k + 1) (k + 1) a _ hx1 hs hE2 hL0 (Nat.le_refl _) (by omega) (fun j h1 h2 => by omega) (fun _ => ⟨c2, hb2, hc2⟩)).mono ?_); rintro e w2 ⟨rfl, hx2, hf2⟩))
      go_ret2
      exact ⟨ret_pair (congrArg (Value.int .u64) HVk.out) rfl, hx2, (hf.trans (hf1.mono (fun k _ e => .inl e))).trans (hf2.mono (fun k _ e => .inl e))⟩
theorem lex_readRequiredField (L : Nat) (d c : Value) (s : ByteArray) (p q r : Nat) (a : Addr) (w : World) (hL : Lx w L d c s p) (hs : WfStr s) (hE : Eof w a) (hL0 : ¬ L = 0) (hpq : p < q) (hpl : Plain s p q) (hst : Stops s q r) :
 Calls Tryz.prog 200 #[.pointer (some ⟨L, 0, none⟩)] w fun e w' => e = .returned (.tuple #[.string (s.extract p q), .nilIface]) ∧ Lx w' L d c s r ∧ Fr (fun k => k = L) w w' := by
 have he : (s.extract p q).toList.isEmpty = false := by
  rw [is_empty]
  have := hst.lt
  simp only [ByteArray.size_extract, decide_eq_false_iff_not]
  omega
 go_enter Tryz.func200, Tryz.ntmps200
 go_wp2_with (go_at_call 173; (with_reducible refine (lex_readField L d c s p q r a _ hL hs hE hL0 (Nat.le_of_lt hpq) hpl hst).mono ?_); rintro e w1 ⟨rfl, hx1, hf1⟩)
 go_ret2
 exact ⟨rfl, hx1, hf1⟩
theorem lex_copyString' (v : Value) (s : ByteArray) (w : World) : Calls Tryz.prog 198 #[v, .string s] w fun e w' => e = .returned (.string s) ∧ w' = w := (lex_copyString v s w).mono (fun _ _ h => ⟨h.1, h.2.symm⟩)
set_option maxRecDepth 100000 in
set_option maxHeartbeats 1000000 in
theorem lex_readLine (L : Nat) (d c : Value) (s : ByteArray) (p q r : Nat) (w : World) (hL : Lx w L d c s p) (hs : WfStr s) (hpq : p ≤ q) (hpl : Whole s p q) (hst : LineEnd s q r) :
 Calls Tryz.prog 213 #[.pointer (some ⟨L, 2, none⟩)] w fun e w' => e = .returned (.tuple #[.string (s.extract p q), .nilIface]) ∧ Lx w' L d c s r ∧ Fr (fun k => k = L) w w' := by
 have hq := hst.lt
 have HP := Lib.hid hpl
 have hm : s.size ≤ 1152921504606846976 := hs
 clear hpl
 have l3 := Blk.cell hL 3 rfl
 go_enter Tryz.func213, Tryz.ntmps213
 go_wp2
 go_loopg [5] (r - p) (fun n i wr => ∃ k t, n = r - k ∧ p ≤ k ∧ k < r ∧ i = .int .i64 t ∧ t = 1 + ((k - q : Nat) : Int) ∧ Lx wr L d c s k ∧ Fr (fun k => k = L) w wr)
 case atStart => exact ⟨p, 1, rfl, Nat.le_refl _, by omega, rfl, by omega, hL, Fr.refl _ _⟩
 case round =>
  obtain ⟨k, t, hn, h1, h2, rfl, ht, hx, hf⟩ := hrel
  have HK := Lib.hid hn
  clear hn
  by_cases hlt : k < q
  · obtain rfl : t = 1 := by omega
    obtain ⟨ch, hb, hc⟩ := HP.out k h1 hlt
    clear ht
    have c1 : (ch == 13) = false := by unfold isNl at hc; simp at hc ⊢; omega
    have c2 : (ch == 10) = false := by unfold isNl at hc; simp at hc ⊢; omega
    clear hc
    go_wp2_with (go_at_call 154; (with_reducible refine (lex_readByte L d c s k ch _ hx hb hs).mono ?_); rintro e w1 ⟨rfl, hx1, hf1⟩)
    go_roundg (r - (k + 1))
    case measure => have := HK.out; omega
    case rel => exact ⟨k + 1, 1, rfl, by omega, by omega, rfl, by omega, hx1, hf.trans (hf1.mono (fun k _ e => .inl e))⟩
  · have hsub : ∀ (j : Nat) (z : Int), z = (j : Int) → z.toNat = j := fun j z h => by omega
    rcases hst with ⟨hb, rfl⟩ | ⟨hb, hb', rfl⟩
    · obtain rfl : k = q := by omega
      obtain rfl : t = 1 := by omega
      clear ht
      go_wp2_with (go_at_call 154; (with_reducible refine (lex_readByte L d c s k 10 _ hx hb hs).mono ?_); rintro e w1 ⟨rfl, hx1, hf1⟩; have m2 := Blk.cell hx1 2 rfl; have m3 := Blk.cell hx1 3 rfl)
      have m3' : w1.cell? ⟨L, 3, none⟩ = some (.int .i64 ((k : Int) + 1)) := m3
      clear m3
      have hw : IntKind.i64.wrap ((k : Int) + 1 - 1) = (k : Int) := by
       rw [IntWalk.i64_in _ (by omega)]; omega
      have b1 : (0 : Int) ≤ (p : Int) := by omega
      have b2 : (p : Int) ≤ (k : Int) := by omega
      have b3 : (k : Int) ≤ (s.size : Int) := by omega
      go_quiet ((go_at_call 198; exact Calls.quiet_of_same (lex_copyString' _ _ _)))
      go_wp2
      go_ret2
      exact ⟨rfl, Blk.drewN hx1 _, (hf.trans (hf1.mono (fun k _ e => .inl e))).drewN _⟩
    · by_cases hk : k = q
      · subst hk
        obtain rfl : t = 1 := by omega
        clear ht
        go_wp2_with (go_at_call 154; (with_reducible refine (lex_readByte L d c s k 13 _ hx hb hs).mono ?_); rintro e w1 ⟨rfl, hx1, hf1⟩)
        go_roundg (k + 2 - (k + 1))
        case measure => have := HK.out; omega
        case rel => exact ⟨k + 1, 2, rfl, by omega, by omega, rfl, by omega, hx1, hf.trans (hf1.mono (fun k _ e => .inl e))⟩
      · obtain rfl : k = q + 1 := by omega
        obtain rfl : t = 2 := by omega
        clear ht hk hlt h2
        go_wp2_with (go_at_call 154; (with_reducible refine (lex_readByte L d c s (q + 1) 10 _ hx hb' hs).mono ?_); rintro e w1 ⟨rfl, hx1, hf1⟩; have m2 := Blk.cell hx1 2 rfl; have m3 := Blk.cell hx1 3 rfl)
        have m3' : w1.cell? ⟨L, 3, none⟩ = some (.int .i64 ((q : Int) + 2)) := m3
        clear m3
        have hw : IntKind.i64.wrap ((q : Int) + 2 - 2) = (q : Int) := by
         rw [IntWalk.i64_in _ (by omega)]; omega
        have b1 : (0 : Int) ≤ (p : Int) := by omega
        have b2 : (p : Int) ≤ (q : Int) := by omega
        have b3 : (q : Int) ≤ (s.size : Int) := by omega
        go_quiet ((go_at_call 198; exact Calls.quiet_of_same (lex_copyString' _ _ _)))
        go_wp2
        go_ret2
        exact ⟨rfl, Blk.drewN hx1 _, (hf.trans (hf1.mono (fun k _ e => .inl e))).drewN _⟩
end Go.Proofs.YtcepdjlknalmnaaGreatDoor
namespace Go.Proofs.YtcepdjlknalmnaaGreatDoor
open Go.RowKit
set_option linter.unusedSimpArgs false
set_option linter.unusedVariables false
namespace PS
variable {B : Nat} {w w' : World} {ρ : Nat → Nat} {L D C : Nat} {s : ByteArray} {p : Nat} {q : Pst} {V : Vs}
theorem lne (h : PS B w ρ L D C s p q V) : ¬ L = 0 := fun e => by have := h.rL; rw [e, h.rz] at this; cases this
end PS
end Go.Proofs.YtcepdjlknalmnaaGreatDoor
namespace Go.Proofs.YtcepdjlknalmnaaGreatDoor
open Go.RowKit
set_option linter.unusedSimpArgs false
set_option linter.unusedVariables false
theorem LineEnd.stops {s : ByteArray} {q r : Nat} (h : LineEnd s q r) : Stops s q q := by
 rcases h with ⟨h, rfl⟩ | ⟨h, h', rfl⟩
 · exact ⟨_, h, .inl ⟨rfl, rfl⟩⟩
 · exact ⟨_, h, .inl ⟨rfl, rfl⟩⟩
theorem extract_wf {s : ByteArray} (p q : Nat) (hs : WfStr s) : WfStr (s.extract p q) := by
 unfold WfStr at hs ⊢
 rw [ByteArray.size_extract]
 omega
set_option maxRecDepth 100000 in
theorem step_lv (B : Nat) (w : World) (ρ : Nat → Nat) (L D C : Nat) (s : ByteArray) (p m r : Nat) (q : Pst) (V : Vs) (a : Addr) (F : Nat → Int) (h : PS B w ρ L D C s p q V) (hs : WfStr s) (hE : Eof w a) (hpm : p ≤ m) (hF : Digits s p m F) (hz : F m = 0) (hle : LineEnd s m r) (hn : NextAt s r) :
 Calls Tryz.prog 121 #[.pointer (some ⟨L, 0, none⟩)] w (Stepped V.pro B w L D C s r q 146) := by
 have hl0 := h.lne
 have hsz := hle.size
 go_enter Tryz.func121, Tryz.ntmps121
 go_wp2_with (first | (go_at_call 144; (with_reducible refine (lex_readUint64Field L _ _ s p m m F a _ h.lx hs hE hl0 hpm hF hle.stops).mono ?_); rintro e w1 ⟨rfl, hx1, hf1⟩; have hE1 : Eof w1 a := hE.fr hf1 (fun e => hl0 e.symm)) | (go_at_call 145; (with_reducible refine (lex_nextLine L _ _ s m r a _ hx1 hs hE1 hl0 hsz.1 hsz.2 hle.nl hn).mono ?_); rintro e w2 ⟨rfl, hx2, hf2⟩))
 go_ret2
 have hf : Fr (fun k => k = L) w w2 := hf1.trans (hf2.mono (fun k _ e => .inl e))
 exact Stepped.mk (h.lex hf hx2) (hf.mono (fun k _ e => e ▸ h.BL))
theorem step_ls (B : Nat) (w : World) (ρ : Nat → Nat) (L D C : Nat) (s : ByteArray) (p m r : Nat) (q : Pst) (V : Vs) (h : PS B w ρ L D C s p q V) (hs : WfStr s) (hpm : p ≤ m) (hW : Whole s p m) (hle : LineEnd s m r) :
 Calls Tryz.prog 202 #[.pointer (some ⟨L, 0, none⟩)] w (Stepped V.pro B w L D C s r (q.app (.ls (s.extract p m))) 214) := by
 obtain ⟨x, hx⟩ : ∃ x, x = s.extract p m := ⟨_, rfl⟩
 have hwx : WfStr x := by rw [hx]; exact extract_wf _ _ hs
 have HX := Lib.hid hx
 clear hx
 go_enter Tryz.func202, Tryz.ntmps202
 go_wp2_with (go_at_call 213; (with_reducible refine (lex_readLine L _ _ s p m r _ h.lx hs hpm hW hle).mono ?_); rw [← HX.out]; rintro e w1 ⟨rfl, hx1, hf1⟩; have h1 := h.lex hf1 hx1; have l0 := h1.lx.cell 0 rfl; have d7 := h1.dd.cell 7 rfl; have f7 := h1.dd.fz 7; unfold pD at l0)
 go_ret2
 rw [← HX.out]
 exact Stepped.mk (h1.dset (q' := { q with name := x }) (V' := V) (by (repeat (first | (with_reducible assumption) | (with_reducible exact Fr.refl _ _) | (with_reducible refine Fr.drew ?_) | (with_reducible refine Fr.drewN ?_ _) | (with_reducible refine Fr.alloc ?_ _) | (with_reducible refine Fr.put ?_ _)))) (h1.dd.set 7 _) (fun k => ⟨k.zero, k.info, k.uri, k.email, k.phone, k.conn, k.key, fun _ => k.bws (by decide), fun _ => k.zones (by decide), fun _ => k.sa (by decide), fun _ => k.ma (by decide), fun _ _ => k.times (by decide) (by decide), fun _ _ _ => k.media (by decide) (by decide) (by decide)⟩) ⟨rfl, rfl⟩ ⟨h.wfo.1, h.wfo.2.1, h.wfo.2.2.1, h.wfo.2.2.2.1, h.wfo.2.2.2.2.1, h.wfo.2.2.2.2.2.1, hwx⟩)
  ((hf1.mono (fun k _ e => e ▸ h.BL)).trans ((Fr.refl _ _).setCell (.inl (.inl h.BD)) _))
end Go.Proofs.YtcepdjlknalmnaaGreatDoor
namespace Go.Proofs.YtcepdjlknalmnaaGreatDoor
open Go.RowKit
set_option linter.unusedSimpArgs false
set_option linter.unusedVariables false
attribute [local go_sem ↓] Go.wp_at_zero Go.wp_at_succ
theorem isIn_symm (s : ByteArray) (xs : List ByteArray) : isIn s xs = xs.any (fun x => s.toList == x.toList) := by
 unfold isIn
 congr 1
 funext x
 exact Bool.beq_comm
theorem par_Index (s : ByteArray) (xs : List ByteArray) (v : Value) (w : World) (h : tyStr.Sl w xs v) :
 Calls Tryz.prog 212 #[v, .string s] w fun e w' => (∃ k : Int, e = .returned (.int .i64 k) ∧ -1 ≤ k ∧ k ≤ 140737488355328 ∧ isIn s xs = decide (0 ≤ k)) ∧ w = w' := by
 obtain ⟨A, c, rfl⟩ := Ty.Sl_form h
 have hm := h.1
 have HI := Lib.hid (isIn_symm s xs)
 go_enter Tryz.func212, Tryz.ntmps212
 go_wp2
 go_loop [8] (fun i => ∃ k : Nat, k ≤ xs.length ∧ i = .int .i64 k ∧ Hid ((xs.take k).any (fun x => s.toList == x.toList) = false)) (fun i => xs.length - (intOf i).toNat)
 case atStart => exact ⟨0, Nat.zero_le _, rfl, Lib.hid (by simp)⟩
 case round =>
  obtain ⟨k, hk, rfl, hall⟩ := hrel
  by_cases hlt : k < xs.length
  · obtain ⟨b, o, rfl, ha⟩ := Ty.Sl_at h k hlt
    obtain ⟨cs, ⟨rfl, _⟩, hx⟩ := ha k _ (List.getElem?_eq_getElem hlt)
    have hx := hx 0 _ rfl
    simp only [tyStr, Ty.flat, Nat.mul_one, Nat.add_zero] at hx
    have HT := Lib.hid (any_take (f := fun x : ByteArray => s.toList == x.toList) hlt hall.out)
    have HN := Lib.hid (any_true (f := fun x : ByteArray => s.toList == x.toList) hlt)
    go_wp2
    · go_ret
      exact ⟨⟨_, rfl, by omega, by omega, by rw [HI.out, HN.out (by assumption)]; simp⟩, rfl⟩
    · exact ⟨⟨k + 1, by omega, by go_num, Lib.hid (by rw [HT.out]; assumption)⟩, by simp [intOf]; omega⟩
  · go_wp2
    go_ret
    exact ⟨⟨_, rfl, by omega, by omega, by have h1 := hall.out; rw [List.take_of_length_le (by omega)] at h1; rw [HI.out, h1]; decide⟩, rfl⟩
theorem par_anyOf (s : ByteArray) (xs : List ByteArray) (v : Value) (w : World) (h : tyStr.Sl w xs v) :
 Calls Tryz.prog 174 #[.string s, v] w fun e w' => e = .returned (.bool (isIn s xs)) ∧ w = w' := by
 have hC : Calls Tryz.prog 199 #[v, .string s] w fun e w' => e = .returned (.bool (isIn s xs)) ∧ w = w' := by
  go_enter Tryz.func199, Tryz.ntmps199
  go_wp2_with (go_at_call 212; (with_reducible refine (par_Index s xs v _ h).mono ?_); rintro e w' ⟨⟨k, rfl, h1, h2, h3⟩, rfl⟩)
  go_ret
  exact ⟨ret_bool (by rw [h3]), rfl⟩
 have HC := Lib.hid hC
 clear hC
 go_enter Tryz.func174, Tryz.ntmps174
 go_wp2_with (go_at_call 199; (with_reducible refine HC.out.mono ?_); rintro e w' ⟨rfl, rfl⟩)
 go_ret
 exact ⟨rfl, rfl⟩
theorem sl_blk {w : World} {g : Nat} {xs : List ByteArray} {n : Nat} (hb : Blk w g (xs.map Value.string) 9) (hw : ∀ x ∈ xs, WfStr x) (hn : xs.length = n) (h0 : 0 < xs.length) (hm : xs.length ≤ 1000) : tyStr.Sl w xs (.slice (some ⟨g, 0, none⟩) n n) := by
 subst hn
 refine ⟨by omega, .inr ⟨h0, g, 0, _, rfl, Nat.le_refl _, fun k x hx => ⟨_, ⟨rfl, hw x (List.mem_of_getElem? hx)⟩, fun j u hu => ?_⟩⟩⟩
 have hj : j = 0 := by
  have := (List.getElem?_eq_some_iff.1 hu).1
  simp at this; omega
 subst hj
 have := hb.cell k (u := u) (by rw [List.getElem?_map, hx]; simpa using hu)
 simpa [tyStr, Ty.flat] using this
theorem par_anyOf_in (x : ByteArray) (g : Nat) (w : World) (hb : Blk w g [.string ⟨#[73, 78]⟩] 9) (hi : isIn x inT = true) : Calls Tryz.prog 174 #[.string x, .slice (some ⟨g, 0, none⟩) 1 1] w fun e w' => e = .returned (.bool true) ∧ w = w' :=
 (par_anyOf x inT _ w (sl_blk hb (wf_short (by decide)) rfl (by decide) (by decide))).mono (fun _ _ h => ⟨by rw [h.1, hi], h.2⟩)
theorem par_anyOf_ip (x : ByteArray) (g : Nat) (w : World) (hb : Blk w g [.string ⟨#[73, 80, 52]⟩, .string ⟨#[73, 80, 54]⟩] 9) (hi : isIn x ipTypes = true) : Calls Tryz.prog 174 #[.string x, .slice (some ⟨g, 0, none⟩) 2 2] w fun e w' => e = .returned (.bool true) ∧ w = w' :=
 (par_anyOf x ipTypes _ w (sl_blk hb (wf_short (by decide)) rfl (by decide) (by decide))).mono (fun _ _ h => ⟨by rw [h.1, hi], h.2⟩)
theorem PS.worg {B : Nat} {w : World} {ρ : Nat → Nat} {L D C : Nat} {s : ByteArray} {p : Nat} {q : Pst} {V : Vs} (h : PS B w ρ L D C s p q V) : WfOrg q.org := ⟨h.wfo.1, h.wfo.2.1, h.wfo.2.2.1, h.wfo.2.2.2.1, h.wfo.2.2.2.2.1, h.wfo.2.2.2.2.2.1⟩
set_option maxRecDepth 100000 in
theorem par_addrType (B : Nat) (w : World) (ρ : Nat → Nat) (L D C : Nat) (s : ByteArray) (p m r : Nat) (q : Pst) (V : Vs) (a : Addr) (h : PS B w ρ L D C s p q V) (hs : WfStr s) (hE : Eof w a) (h1 : p < m) (hp : Plain s p m) (hst : Stops s m r) :
 Calls Tryz.prog 175 #[.pointer (some ⟨L, 0, none⟩)] w fun e w' => e = .returned .nilIface ∧ Within B w L D C s r { q with org := { q.org with addr := s.extract p m } } V w' := by
 have hwx := extract_wf p m hs
 have hl0 := h.lne
 go_enter Tryz.func175, Tryz.ntmps175
 go_wp2_with (go_at_call 200; (with_reducible refine (lex_readRequiredField L _ _ s p m r a _ h.lx hs hE hl0 h1 hp hst).mono ?_); rintro e w1 ⟨rfl, hX1, hF1⟩; have h1 := h.lex hF1 hX1; have l0 := h1.lx.cell 0 rfl; have d7 := h1.dd.cell 5 rfl; have f7 := h1.dd.fz 5; unfold pD at l0)
 go_ret
 exact ⟨rfl, Within.org h1 (hF1.mono (fun k _ e => e ▸ h.BL)) 5 _ { q.org with addr := s.extract p m } rfl ⟨h.worg.1, h.worg.2.1, h.worg.2.2.1, h.worg.2.2.2.1, hwx, h.worg.2.2.2.2.2⟩⟩
set_option maxRecDepth 100000 in
theorem par_unicast (B : Nat) (w : World) (ρ : Nat → Nat) (L D C : Nat) (s : ByteArray) (p m r : Nat) (q : Pst) (V : Vs) (a : Addr) (h : PS B w ρ L D C s p q V) (hs : WfStr s) (hE : Eof w a) (h1 : p < m) (hp : Plain s p m) (hst : Stops s m r) :
 Calls Tryz.prog 176 #[.pointer (some ⟨L, 0, none⟩)] w fun e w' => e = .returned .nilIface ∧ Within B w L D C s r { q with org := { q.org with adr := s.extract p m } } V w' := by
 have hwx := extract_wf p m hs
 have hl0 := h.lne
 go_enter Tryz.func176, Tryz.ntmps176
 go_wp2_with (go_at_call 200; (with_reducible refine (lex_readRequiredField L _ _ s p m r a _ h.lx hs hE hl0 h1 hp hst).mono ?_); rintro e w1 ⟨rfl, hX1, hF1⟩; have h1 := h.lex hF1 hX1; have l0 := h1.lx.cell 0 rfl; have d7 := h1.dd.cell 6 rfl; have f7 := h1.dd.fz 6; unfold pD at l0)
 go_ret
 exact ⟨rfl, Within.org h1 (hF1.mono (fun k _ e => e ▸ h.BL)) 6 _ { q.org with adr := s.extract p m } rfl ⟨h.worg.1, h.worg.2.1, h.worg.2.2.1, h.worg.2.2.2.1, h.worg.2.2.2.2.1, hwx⟩⟩
set_option maxRecDepth 100000 in
set_option maxHeartbeats 2000000 in
theorem step_lo (B : Nat) (hB : 0 < B) (w : World) (ρ : Nat → Nat) (L D C : Nat) (s : ByteArray) (p m1 p1 m2 p2 m3 p3 m4 p4 m5 p5 m r : Nat) (F1 F2 : Nat → Int) (q : Pst) (V : Vs) (a : Addr) (h : PS B w ρ L D C s p q V) (hs : WfStr s) (hE : Eof w a)
 (h1 : p ≤ m1) (hp1 : Plain s p m1) (hs1 : Stops s m1 p1) (h2 : p1 ≤ m2) (hF1 : Digits s p1 m2 F1) (hs2 : Stops s m2 p2) (h3 : p2 ≤ m3) (hF2 : Digits s p2 m3 F2) (hs3 : Stops s m3 p3) (h4 : p3 ≤ m4) (hp4 : Plain s p3 m4) (hs4 : Stops s m4 p4)
 (h5 : p4 < m5) (hp5 : Plain s p4 m5) (hs5 : Stops s m5 p5) (h6 : p5 < m) (hp6 : Plain s p5 m) (hle : LineEnd s m r) (hn : NextAt s r) (hi1 : isIn (s.extract p3 m4) inT = true) (hi2 : isIn (s.extract p4 m5) ipTypes = true) :
 Calls Tryz.prog 162 #[.pointer (some ⟨L, 0, none⟩)] w (Stepped V.pro B w L D C s r (q.app (.lo ⟨s.extract p m1, F1 m2, F2 m3, s.extract p3 m4, s.extract p4 m5, s.extract p5 m⟩)) 177) := by
 have hsz := hle.size
 have hl0 := h.lne
 have hB0 : B ≤ 0 → False := fun e => by omega
 obtain ⟨x1, hx1⟩ : ∃ x, x = s.extract p m1 := ⟨_, rfl⟩
 obtain ⟨x4, hx4⟩ : ∃ x, x = s.extract p3 m4 := ⟨_, rfl⟩
 obtain ⟨x5, hx5⟩ : ∃ x, x = s.extract p4 m5 := ⟨_, rfl⟩
 have hw1 : WfStr x1 := by rw [hx1]; exact extract_wf _ _ hs
 have hw4 : WfStr x4 := by rw [hx4]; exact extract_wf _ _ hs
 have hw5 : WfStr x5 := by rw [hx5]; exact extract_wf _ _ hs
 rw [← hx4] at hi1
 rw [← hx5] at hi2
 rw [← hx1, ← hx4, ← hx5]
 have HX1 := Lib.hid hx1
 have HX4 := Lib.hid hx4
 have HX5 := Lib.hid hx5
 clear hx1 hx4 hx5
 have n1 : ¬ D = L := h.neLD
 have n2 : ¬ L = D := fun e => n1 e.symm
 have hE0 := hE
 have hW0 : Fr (fun k => B ≤ k) w w := Fr.refl _ _
 have k0 := h
 have l0 := h.lx.cell 0 rfl
 unfold pD at l0
 go_enter Tryz.func162, Tryz.ntmps162
 go_upto_region 2 with fail
 go_region_held3 (fun w' => w'.cell? ⟨L, 0, none⟩ = some (.pointer (some ⟨D, 0, none⟩))) (first | exact m0 | go_keep) (first | (go_at_call 173; (with_reducible refine (lex_readField L (pD D) (pD C) s p m1 p1 a _ ?_ hs ?_ hl0 h1 hp1 hs1).mono ?_); (focus exact k0.lx); (focus exact hE0); rw [← HX1.out]; rintro e v1 ⟨rfl, hX, hF⟩; have hF := Fr.undrew hF; have j1 := k0.lex hF hX; have m0 := j1.lx.cell 0 rfl; unfold pD at m0; have d7 := j1.dd.cell 1 rfl; have f7 := j1.dd.fz 1))
 have y1 : Within B w L D C s p1 { q with org := ⟨x1, q.org.id, q.org.ver, q.org.net, q.org.addr, q.org.adr⟩ } V (v1.setCell ⟨D, 1, none⟩ (.string x1)) := Within.org j1 (hW0.trans (hF.mono (fun k _ e => .inl (e ▸ h.BL)))) 1 _ ⟨x1, q.org.id, q.org.ver, q.org.net, q.org.addr, q.org.adr⟩ rfl ⟨hw1, k0.worg.2.1, k0.worg.2.2.1, k0.worg.2.2.2.1, k0.worg.2.2.2.2.1, k0.worg.2.2.2.2.2⟩
 obtain ⟨w1, hw1'⟩ : ∃ w1, w1 = v1.setCell ⟨D, 1, none⟩ (.string x1) := ⟨_, rfl⟩
 rw [← hw1'] at y1 ⊢
 clear hw1'
 obtain ⟨⟨ρ1, k1⟩, hW1⟩ := y1
 have hE1 : Eof w1 a := hE.fr hW1 hB0
 have l0 := k1.lx.cell 0 rfl
 unfold pD at l0
 clear m0 d7 f7 hX hF j1 k0
 go_wp2
 go_region_held3 (fun w' => w'.cell? ⟨L, 0, none⟩ = some (.pointer (some ⟨D, 0, none⟩))) (first | exact m0 | go_keep) (first | (go_at_call 144; (with_reducible refine (lex_readUint64Field L (pD D) (pD C) s p1 m2 p2 F1 a _ ?_ hs ?_ hl0 h2 hF1 hs2).mono ?_); (focus exact k1.lx); (focus exact hE1); rintro e v2 ⟨rfl, hX, hF⟩; have hF := Fr.undrew hF; have j2 := k1.lex hF hX; have m0 := j2.lx.cell 0 rfl; unfold pD at m0; have d7 := j2.dd.cell 2 rfl; have f7 := j2.dd.fz 2))
 have y2 : Within B w L D C s p2 { q with org := ⟨x1, (F1 m2), q.org.ver, q.org.net, q.org.addr, q.org.adr⟩ } V (v2.setCell ⟨D, 2, none⟩ (.int .u64 (F1 m2))) := Within.org j2 (hW1.trans (hF.mono (fun k _ e => .inl (e ▸ h.BL)))) 2 _ ⟨x1, (F1 m2), q.org.ver, q.org.net, q.org.addr, q.org.adr⟩ rfl ⟨k1.worg.1, hF1.wf, k1.worg.2.2.1, k1.worg.2.2.2.1, k1.worg.2.2.2.2.1, k1.worg.2.2.2.2.2⟩
 obtain ⟨w2, hw2'⟩ : ∃ w2, w2 = v2.setCell ⟨D, 2, none⟩ (.int .u64 (F1 m2)) := ⟨_, rfl⟩
 rw [← hw2'] at y2 ⊢
 clear hw2'
 obtain ⟨⟨ρ2, k2⟩, hW2⟩ := y2
 have hE2 : Eof w2 a := hE.fr hW2 hB0
 have l0 := k2.lx.cell 0 rfl
 unfold pD at l0
 clear m0 d7 f7 hX hF j2 k1
 go_wp2
 go_region_held3 (fun w' => w'.cell? ⟨L, 0, none⟩ = some (.pointer (some ⟨D, 0, none⟩))) (first | exact m0 | go_keep) (first | (go_at_call 144; (with_reducible refine (lex_readUint64Field L (pD D) (pD C) s p2 m3 p3 F2 a _ ?_ hs ?_ hl0 h3 hF2 hs3).mono ?_); (focus exact k2.lx); (focus exact hE2); rintro e v3 ⟨rfl, hX, hF⟩; have hF := Fr.undrew hF; have j3 := k2.lex hF hX; have m0 := j3.lx.cell 0 rfl; unfold pD at m0; have d7 := j3.dd.cell 3 rfl; have f7 := j3.dd.fz 3))
 have y3 : Within B w L D C s p3 { q with org := ⟨x1, (F1 m2), (F2 m3), q.org.net, q.org.addr, q.org.adr⟩ } V (v3.setCell ⟨D, 3, none⟩ (.int .u64 (F2 m3))) := Within.org j3 (hW2.trans (hF.mono (fun k _ e => .inl (e ▸ h.BL)))) 3 _ ⟨x1, (F1 m2), (F2 m3), q.org.net, q.org.addr, q.org.adr⟩ rfl ⟨k2.worg.1, k2.worg.2.1, hF2.wf, k2.worg.2.2.2.1, k2.worg.2.2.2.2.1, k2.worg.2.2.2.2.2⟩
 obtain ⟨w3, hw3'⟩ : ∃ w3, w3 = v3.setCell ⟨D, 3, none⟩ (.int .u64 (F2 m3)) := ⟨_, rfl⟩
 rw [← hw3'] at y3 ⊢
 clear hw3'
 obtain ⟨⟨ρ3, k3⟩, hW3⟩ := y3
 have hE3 : Eof w3 a := hE.fr hW3 hB0
 have l0 := k3.lx.cell 0 rfl
 unfold pD at l0
 clear m0 d7 f7 hX hF j3 k2
 go_wp2
 go_region_held3 (fun w' => w'.cell? ⟨L, 0, none⟩ = some (.pointer (some ⟨D, 0, none⟩))) (first | exact m0 | go_keep) (first | (go_at_call 173; (with_reducible refine (lex_readField L (pD D) (pD C) s p3 m4 p4 a _ ?_ hs ?_ hl0 h4 hp4 hs4).mono ?_); (focus exact k3.lx); (focus exact hE3); rw [← HX4.out]; rintro e v4 ⟨rfl, hX, hF⟩; have hF := Fr.undrew hF; have j4 := k3.lex hF hX; have m0 := j4.lx.cell 0 rfl; unfold pD at m0; have d7 := j4.dd.cell 4 rfl; have f7 := j4.dd.fz 4))
 have y4 : Within B w L D C s p4 { q with org := ⟨x1, (F1 m2), (F2 m3), x4, q.org.addr, q.org.adr⟩ } V (v4.setCell ⟨D, 4, none⟩ (.string x4)) := Within.org j4 (hW3.trans (hF.mono (fun k _ e => .inl (e ▸ h.BL)))) 4 _ ⟨x1, (F1 m2), (F2 m3), x4, q.org.addr, q.org.adr⟩ rfl ⟨k3.worg.1, k3.worg.2.1, k3.worg.2.2.1, hw4, k3.worg.2.2.2.2.1, k3.worg.2.2.2.2.2⟩
 obtain ⟨w4, hw4'⟩ : ∃ w4, w4 = v4.setCell ⟨D, 4, none⟩ (.string x4) := ⟨_, rfl⟩
 rw [← hw4'] at y4 ⊢
 clear hw4'
 obtain ⟨⟨ρ4, k4⟩, hW4⟩ := y4
 have hE4 : Eof w4 a := hE.fr hW4 hB0
 have l0 := k4.lx.cell 0 rfl
 unfold pD at l0
 clear m0 d7 f7 hX hF j4 k3
 have c4 := k4.dd.cell 4 rfl
 go_upto_region 16 with (go_at_call 174; (with_reducible refine (par_anyOf_in x4 _ _ ?_ hi1).mono ?_); (focus exact Blk.made' rfl _ 9); rintro e w5 ⟨rfl, rfl⟩)
 obtain ⟨w5, hw5'⟩ : ∃ w5, w5 = w4.alloc (.cells #[.string ⟨#[73, 78]⟩] 9) := ⟨_, rfl⟩
 have y5 : Within B w L D C s p4 { q with org := ⟨x1, F1 m2, F2 m3, x4, q.org.addr, q.org.adr⟩ } V w5 := by
  rw [hw5']
  exact ⟨⟨_, k4.lexN (by (repeat (first | (with_reducible assumption) | (with_reducible exact Fr.refl _ _) | (with_reducible refine Fr.drew ?_) | (with_reducible refine Fr.drewN ?_ _) | (with_reducible refine Fr.alloc ?_ _) | (with_reducible refine Fr.put ?_ _)))) (Blk.alloc k4.lx _)⟩, hW4.alloc _⟩
 rw [← hw5']
 clear hw5' c4 l0 k4 hE4
 obtain ⟨⟨ρ5, k5⟩, hW5⟩ := y5
 have hE5 : Eof w5 a := hE.fr hW5 hB0
 go_upto_region 19 with (go_at_call 175; (with_reducible refine (par_addrType B _ ρ5 L D C s p4 m5 p5 _ V a k5 hs hE5 h5 hp5 hs5).mono ?_); rw [← HX5.out]; rintro e w6 ⟨rfl, y6⟩)
 obtain ⟨⟨ρ6, k6⟩, hW6⟩ := y6
 have hW6 := hW5.trans (hW6.mono (fun k _ e => .inl e))
 have hE6 : Eof w6 a := hE.fr hW6 hB0
 have c6 := k6.dd.cell 5 rfl
 have l0 := k6.lx.cell 0 rfl
 unfold pD at l0
 clear k5 hE5
 go_upto_region 21 with (go_at_call 174; (with_reducible refine (par_anyOf_ip x5 _ _ ?_ hi2).mono ?_); (focus exact Blk.made' rfl _ 9); rintro e w5 ⟨rfl, rfl⟩)
 obtain ⟨w7, hw7'⟩ : ∃ w7, w7 = w6.alloc (.cells #[.string ⟨#[73, 80, 52]⟩, .string ⟨#[73, 80, 54]⟩] 9) := ⟨_, rfl⟩
 have y7 : Within B w L D C s p5 { q with org := ⟨x1, F1 m2, F2 m3, x4, x5, q.org.adr⟩ } V w7 := by
  rw [hw7']
  exact ⟨⟨_, k6.lexN (by (repeat (first | (with_reducible assumption) | (with_reducible exact Fr.refl _ _) | (with_reducible refine Fr.drew ?_) | (with_reducible refine Fr.drewN ?_ _) | (with_reducible refine Fr.alloc ?_ _) | (with_reducible refine Fr.put ?_ _)))) (Blk.alloc k6.lx _)⟩, hW6.alloc _⟩
 rw [← hw7']
 clear hw7' c6 l0 k6 hE6
 obtain ⟨⟨ρ7, k7⟩, hW7⟩ := y7
 have hE7 : Eof w7 a := hE.fr hW7 hB0
 go_upto_region 24 with (go_at_call 176; (with_reducible refine (par_unicast B _ ρ7 L D C s p5 m m _ V a k7 hs hE7 h6 hp6 hle.stops).mono ?_); rintro e w8 ⟨rfl, y8⟩)
 obtain ⟨⟨ρ8, k8⟩, hW8⟩ := y8
 have hW8 := hW7.trans (hW8.mono (fun k _ e => .inl e))
 have hE8 : Eof w8 a := hE.fr hW8 hB0
 clear k7 hE7
 go_wp2_with (go_at_call 145; (with_reducible refine (lex_nextLine L (pD D) (pD C) s m r a _ k8.lx hs hE8 hl0 hsz.1 hsz.2 hle.nl hn).mono ?_); rintro e w9 ⟨rfl, hX9, hF9⟩)
 go_ret2
 exact Stepped.mk (k8.lex hF9 hX9) (hW8.trans (hF9.mono (fun k _ e => .inl (e ▸ h.BL))))
end Go.Proofs.YtcepdjlknalmnaaGreatDoor
namespace Go.Proofs.YtcepdjlknalmnaaGreatDoor
open Go.RowKit
set_option linter.unusedSimpArgs false
set_option linter.unusedVariables false
def newOf (v : Value) (i : Nat) : Nat → Nat := fun k => if some k = v.ownBlock then i else 0
def turn (ρ : Nat → Nat) (n : Nat) (old : Nat → Nat) (v : Value) (i : Nat) : Nat → Nat := fun k => if k < n then old (ρ k) else newOf v i k
theorem turn_old {ρ : Nat → Nat} {n : Nat} {old : Nat → Nat} {v : Value} {i k : Nat} (h : k < n) : turn ρ n old v i k = old (ρ k) := by unfold turn; rw [if_pos h]
theorem turn_zero {ρ : Nat → Nat} {n : Nat} {old : Nat → Nat} {v : Value} {i k B : Nat} (hz : ∀ k, ¬ ρ k = 0 → B ≤ k) (ho : old 0 = 0) (hB : B ≤ n) (h : ¬ turn ρ n old v i k = 0) : B ≤ k := by
 rcases Nat.lt_or_ge k n with hlt | hge
 · rw [turn_old hlt] at h
   exact hz k (fun e => h (by rw [e, ho]))
 · omega
theorem turn_own {ρ : Nat → Nat} {n : Nat} {old : Nat → Nat} {v v1 : Value} {i : Nat} (hv : ∀ k, v.ownBlock = some k → ρ k = i) (ho : old i = i) (h1 : v1.ownBlock = v.ownBlock ∨ ∃ b, v1.ownBlock = some b ∧ n ≤ b) (hlt : ∀ k, v.ownBlock = some k → k < n) : ∀ k, v1.ownBlock = some k → turn ρ n old v1 i k = i := by
 intro k hk
 rcases h1 with h1 | ⟨b, h1, hb⟩
 · have := hlt k (by rw [← h1, hk])
   rw [turn_old this, hv k (by rw [← h1, hk]), ho]
 · have e : k = b := by rw [hk] at h1; exact Option.some.inj h1
   have : ¬ k < n := by omega
   unfold turn newOf
   rw [if_neg this, if_pos hk.symm]
def drop9 (i : Nat) : Nat := if i = 9 then 0 else i
theorem PS.addTime {B : Nat} {w w1 w6 : World} {ρ : Nat → Nat} {L D C : Nat} {s : ByteArray} {p : Nat} {q : Pst} {V : Vs} {rows : List (List Value)} {N : Nat} {x y : Int} {v6 : Value} (h : PS B w ρ L D C s p q V) (ht : TimK ρ w B V.times V.reps q.td q.tc rows) (hN : Small N q) (hN2 : N ≤ 1000000000) (hn : Nw w w1)
 (hr : Row w6 B 177 3 v6 (rows ++ [[.int .u64 x, .int .u64 y, .slice none 0 0]])) (hf : Fr (fun k => some k = V.times.ownBlock) w1 w6) (ho : v6.ownBlock = V.times.ownBlock ∨ ∃ b, v6.ownBlock = some b ∧ w1.heap.size ≤ b) (hx : WfInt .u64 x) (hy : WfInt .u64 y) (rp : List Rep) :
 (∃ ρ', PS B (w6.setCell ⟨D, 14, none⟩ v6) ρ' L D C s p (q.app (.lt ⟨x, y, rp⟩)) { V with times := v6, reps := .slice none 0 0 }) ∧ Fr (fun k => B ≤ k) w (w6.setCell ⟨D, 14, none⟩ v6) := by
 have hBw : B ≤ w.heap.size := by have := h.BD; have := h.dd.lt; omega
 have hF : Fr (fun k => some k = V.times.ownBlock ∨ k = D) w (w6.setCell ⟨D, 14, none⟩ v6) :=
  ((hn.fr _).trans (hf.mono (fun k _ e => .inl (.inl e)))).setCell (.inl (.inr rfl)) _
 have ho' : v6.ownBlock = V.times.ownBlock ∨ ∃ b, v6.ownBlock = some b ∧ w.heap.size ≤ b := ho.imp id (fun ⟨b, h1, h2⟩ => ⟨b, h1, Nat.le_trans hn.size h2⟩)
 have hlt : ∀ k, V.times.ownBlock = some k → k < w.heap.size := fun k hk => (ht.row.base k hk).2
 have hS : ∀ k, k < w.heap.size → (some k = V.times.ownBlock ∨ k = D) → ρ k = 8 ∨ ρ k = 2 := fun k _ e => e.imp (fun e => ht.own k e.symm) (fun e => by rw [e]; exact h.rD)
 have hvD : ¬ v6.ownBlock = some D := fun e => by
  rcases ho' with h1 | ⟨b, h1, h2⟩
  · have := ht.own D (by rw [← h1, e]); rw [h.rD] at this; cases this
  · rw [e] at h1; have := Option.some.inj h1; have := h.dd.lt; omega
 have hd6 : Blk w6 D (dCells q V) 115 := (h.dd.nw hn).fr hf (fun e => by have := ht.own D e.symm; rw [h.rD] at this; cases this)
 refine ⟨?_, hF.mono (fun k _ e => e.elim (fun e => (ht.row.base k e.symm).1) (fun e => e ▸ h.BD))⟩
 refine ⟨turn ρ w.heap.size drop9 v6 8, ?_⟩
 have hk := h.kp.keep (R' := fun i => i = 2 ∨ i = 8 ∨ i = 9) (ρ' := turn ρ w.heap.size drop9 v6 8) hF (fun k hk e => by have := hS k hk e; omega) (fun _ e => e.elim) (by decide) (fun k hk e => by
  rw [turn_old hk]; unfold drop9; rw [if_neg (by omega)]) (fun k hk => turn_zero h.kp.zero rfl hBw hk)
 refine ⟨by rw [turn_old h.lx.lt, h.rL]; rfl, by rw [turn_old h.dd.lt, h.rD]; rfl, by rw [turn_old h.cc.lt, h.rC]; rfl, by rw [turn_old h.size0, h.rz]; rfl,
  h.lx.fr hF (fun e => by have := hS L h.lx.lt e; rw [h.rL] at this; omega), hd6.set 14 _, h.cc.fr hF (fun e => by have := hS C h.cc.lt e; rw [h.rC] at this; omega), ?_, h.wfo⟩
 refine ⟨hk.zero, hk.info, hk.uri, hk.email, hk.phone, hk.conn, hk.key, fun _ => hk.bws (by decide), fun _ => hk.zones (by decide), fun _ => hk.sa (by decide), fun _ => hk.ma (by decide), fun _ _ => ⟨rows ++ [[.int .u64 x, .int .u64 y, .slice none 0 0]], ?_⟩, fun _ _ _ => hk.media (by decide) (by decide) (by decide)⟩
 have h0 : ∀ k, k < w.heap.size → ρ k = 0 ∨ ρ k = 9 → turn ρ w.heap.size drop9 v6 8 k = 0 := fun k hk e => by
  rw [turn_old hk]; unfold drop9; rcases e with e | e <;> rw [e] <;> rfl
 have hlen := ht.len
 have htc : (q.tc.toList).length ≤ 1 := by cases q.tc <;> simp
 refine ⟨hr.fr ((Fr.refl (fun k => k = D) w6).put _) (fun k hk e => hvD (by rw [hk, e])), turn_own ht.own rfl ho' hlt, ?_, ?_, fun e => by simp [Pst.app] at e, ?_⟩
 · simp [Pst.app, hlen]
 · intro i t r hi hr'
   simp only [Pst.app] at hi
   have hil : i < q.td.length + q.tc.toList.length := by have := (List.getElem?_eq_some_iff.1 hi).1; simpa using this
   rw [List.getElem?_append_left (by omega)] at hr'
   rcases Nat.lt_or_ge i q.td.length with hlt2 | hge
   · rw [List.getElem?_append_left hlt2] at hi
     exact (ht.done i t r hi hr').keep0 hF (fun k hk e => by have := hS k hk e; omega) (fun k hk e => h0 k hk (.inl e))
   · have hi2 : i = q.td.length := by omega
     subst hi2
     rw [List.getElem?_append_right (Nat.le_refl _), Nat.sub_self] at hi
     have htc2 : q.tc = some t := by
      cases hq : q.tc with
      | none => rw [hq] at hi; simp at hi
      | some t' => rw [hq] at hi; simpa using hi
     obtain ⟨g1, g2, g3, g4⟩ := ht.last t htc2
     rw [g1] at hr'
     obtain rfl := Option.some.inj hr'
     have hf4 : Foot (fun W => tyTim.rel W t [.int .u64 t.start, .int .u64 t.stop, V.reps]) w (fun k => ρ k = 0 ∨ ρ k = 9) := (g4.foot (by have := hN.reps t htc2; omega)).imp (fun W hW => ⟨_, rfl, g2, g3, hW⟩)
     exact (hf4.fr hF (fun k hk e1 e2 => by have := hS k hk e2; omega)).mono (fun k _ e => h0 k e.2 e.1)
 · intro t htt
   simp only [Pst.app, Option.some.injEq] at htt
   subst htt
   refine ⟨?_, hx, hy, RowK.nil _ _ _ _ _ _⟩
   simp only [Pst.app, List.length_append]
   rw [List.getElem?_append_right (by omega), hlen, Nat.sub_self]
   rfl
end Go.Proofs.YtcepdjlknalmnaaGreatDoor
namespace Go.Proofs.YtcepdjlknalmnaaGreatDoor
open Go.RowKit
set_option linter.unusedSimpArgs false
set_option linter.unusedVariables false
theorem dec_ne (u : Nat) : Lib.decDigits u ≠ [] := by
 rw [Lib.decDigits]
 split <;> simp
end Go.Proofs.YtcepdjlknalmnaaGreatDoor
namespace Go.Proofs.YtcepdjlknalmnaaGreatDoor
open Go.RowKit
set_option linter.unusedSimpArgs false
set_option linter.unusedVariables false
theorem dec_plain {n : Int} : ∀ c ∈ (Lib.decDigits (Int.toNat n)), 48 ≤ c.toNat ∧ c.toNat ≤ 57 := fun c hc => dec_digit _ c hc
theorem isIn_mem {s : ByteArray} {xs : List ByteArray} (h : isIn s xs = true) : ∃ x ∈ xs, bs x = bs s := by
 unfold isIn at h
 obtain ⟨x, hx, he⟩ := List.any_eq_true.1 h
 exact ⟨x, hx, by
  rw [ByteArray.toList_eq, ByteArray.toList_eq] at he
  exact eq_of_beq he⟩
end Go.Proofs.YtcepdjlknalmnaaGreatDoor
namespace Go.Proofs.YtcepdjlknalmnaaGreatDoor
open Go.RowKit
set_option linter.unusedSimpArgs false
set_option linter.unusedVariables false
attribute [local go_sem ↓] Go.wp_at_zero Go.wp_at_succ
set_option maxRecDepth 100000 in
set_option maxHeartbeats 1000000 in
theorem step_lt (B : Nat) (hB : 0 < B) (w : World) (ρ : Nat → Nat) (L D C : Nat) (s : ByteArray) (p m1 p1 m r : Nat) (F1 F2 : Nat → Int) (q : Pst) (V : Vs) (a : Addr) (N : Nat) (h : PS B w ρ L D C s p q V) (hs : WfStr s) (hE : Eof w a) (hN : Small N q) (hN2 : N ≤ 1000000000)
 (h1 : p ≤ m1) (hF1 : Digits s p m1 F1) (hs1 : Stops s m1 p1) (h2 : p1 ≤ m) (hF2 : Digits s p1 m F2) (hle : LineEnd s m r) (hn : NextAt s r) (rp : List Rep) :
 Calls Tryz.prog 223 #[.pointer (some ⟨L, 0, none⟩)] w (Stepped V.pro B w L D C s r (q.app (.lt ⟨F1 m1, F2 m, rp⟩)) 232) := by
 have hsz := hle.size
 have hl0 := h.lne
 have hB0 : B ≤ 0 → False := fun e => by omega
 obtain ⟨g, hg⟩ : ∃ g, g = w.heap.size := ⟨_, rfl⟩
 have hgL : ¬ g = L := fun e => by have := h.lx.lt; omega
 obtain ⟨w0, hw0⟩ : ∃ w0, w0 = w.alloc (.cells #[.int .u64 0, .int .u64 0, .slice none 0 0] 177) := ⟨_, rfl⟩
 have hF0 : Fr (fun k => k = L) w w0 := by rw [hw0]; (repeat (first | (with_reducible assumption) | (with_reducible exact Fr.refl _ _) | (with_reducible refine Fr.drew ?_) | (with_reducible refine Fr.drewN ?_ _) | (with_reducible refine Fr.alloc ?_ _) | (with_reducible refine Fr.put ?_ _)))
 have h0 : PS B w0 (ext ρ w.heap.size (fun _ => 0)) L D C s p q V := by rw [hw0]; exact h.lexN (by (repeat (first | (with_reducible assumption) | (with_reducible exact Fr.refl _ _) | (with_reducible refine Fr.drew ?_) | (with_reducible refine Fr.drewN ?_ _) | (with_reducible refine Fr.alloc ?_ _) | (with_reducible refine Fr.put ?_ _)))) (Blk.alloc h.lx _)
 have hB0' : Blk w0 g [.int .u64 0, .int .u64 0, .slice none 0 0] 177 := by rw [hw0, hg]; exact Blk.made w _ 177
 go_enter Tryz.func223, Tryz.ntmps223
 go_upto_region 3 with fail
 rw [← hw0, ← hg]
 have HG := Lib.hid hg
 clear hw0 hg
 have hE0 : Eof w0 a := hE.fr hF0 (fun e => hl0 e.symm)
 go_upto_region 6 with (go_at_call 144; (with_reducible refine (lex_readUint64Field L (pD D) (pD C) s p m1 p1 F1 a _ h0.lx hs hE0 hl0 h1 hF1 hs1).mono ?_); rintro e w1 ⟨rfl, hX1, hF1'⟩; have hB1 := hB0'.fr hF1' hgL; have c1 := hB1.cell 0 rfl; have f1 := hB1.fz 0)
 obtain ⟨w2, hw2⟩ : ∃ w2, w2 = w1.setCell ⟨g, 0, none⟩ (.int .u64 (F1 m1)) := ⟨_, rfl⟩
 have hX2 : Lx w2 L (pD D) (pD C) s p1 := by rw [hw2]; exact Blk.other hX1 (fun e => hgL e.symm) _
 have hB2 : Blk w2 g [.int .u64 (F1 m1), .int .u64 0, .slice none 0 0] 177 := by rw [hw2]; exact hB1.set 0 _
 have hF2' : Fr (fun k => k = L) w w2 := by rw [hw2]; exact (hF0.trans (hF1'.mono (fun k _ e => .inl e))).setCell (.inr (Nat.le_of_eq HG.out.symm)) _
 rw [← hw2]
 clear hw2 hX1 hB1 c1 f1 hF1'
 have hE2 : Eof w2 a := hE.fr hF2' (fun e => hl0 e.symm)
 go_upto_region 9 with (go_at_call 144; (with_reducible refine (lex_readUint64Field L (pD D) (pD C) s p1 m m F2 a _ hX2 hs hE2 hl0 h2 hF2 hle.stops).mono ?_); rintro e w3 ⟨rfl, hX3, hF3⟩; have hB3 := hB2.fr hF3 hgL; have c1 := hB3.cell 1 rfl; have f1 := hB3.fz 1)
 obtain ⟨w4, hw4⟩ : ∃ w4, w4 = w3.setCell ⟨g, 1, none⟩ (.int .u64 (F2 m)) := ⟨_, rfl⟩
 have hX4 : Lx w4 L (pD D) (pD C) s m := by rw [hw4]; exact Blk.other hX3 (fun e => hgL e.symm) _
 have hB4 : Blk w4 g [.int .u64 (F1 m1), .int .u64 (F2 m), .slice none 0 0] 177 := by rw [hw4]; exact hB3.set 1 _
 have hF4 : Fr (fun k => k = L) w w4 := by rw [hw4]; exact (hF2'.trans (hF3.mono (fun k _ e => .inl e))).setCell (.inr (Nat.le_of_eq HG.out.symm)) _
 rw [← hw4]
 clear hw4 hX3 hB3 c1 f1 hF3
 have hE4 : Eof w4 a := hE.fr hF4 (fun e => hl0 e.symm)
 go_upto_region 12 with (go_at_call 145; (with_reducible refine (lex_nextLine L (pD D) (pD C) s m r a _ hX4 hs hE4 hl0 hsz.1 hsz.2 hle.nl hn).mono ?_); rintro e w5 ⟨rfl, hX5, hF5⟩)
 have hB5 := hB4.fr hF5 hgL
 have hFw : Fr (fun k => k = L) w w5 := hF4.trans (hF5.mono (fun k _ e => .inl e))
 have h5 := h.lexN hFw hX5
 obtain ⟨rows, ht⟩ := h5.kp.times (fun e => e) (fun e => e)
 have l0 := h5.lx.cell 0 rfl
 unfold pD at l0
 have d14 := h5.dd.cell 14 rfl
 have e14 := h5.dd.fz 14
 have g0 := hB5.cell 0 rfl
 have g1 := hB5.cell 1 rfl
 have g2 := hB5.cell 2 rfl
 have nD := h5.dd.lt
 have nL := h5.lx.lt
 have nG := hB5.lt
 have hrl : rows.length ≤ 1000000001 := by
  have := ht.len; have := hN.td
  have h3 : q.tc.toList.length ≤ 1 := by cases q.tc <;> simp
  omega
 clear hX2 hX4 hB2 hB4 hE2 hE4 hF2' hF4 hF5 hX5 hB0' h0 hF0
 have hBw : B ≤ w5.heap.size := by have := h5.BD; omega
 have hR : ([.int .u64 (F1 m1), .int .u64 (F2 m), .slice none 0 0] : List Value).length = 3 ∧ ∀ u ∈ ([.int .u64 (F1 m1), .int .u64 (F2 m), .slice none 0 0] : List Value), u.oneCell' = true := by
  refine ⟨rfl, fun u hu => ?_⟩
  simp only [List.mem_cons, List.not_mem_nil, or_false] at hu
  rcases hu with rfl | rfl | rfl <;> rfl
 have hneD : ¬ some D = V.times.ownBlock := fun e => by have := ht.own D e.symm; rw [h5.rD] at this; cases this
 have hneL : ¬ some L = V.times.ownBlock := fun e => by have := ht.own L e.symm; rw [h5.rL] at this; cases this
 go_region_law ((refine at_step rfl ?_; (with_reducible refine row_appendG B (.tmp 48) (.tmp 50) 109 177 3 (.agg #[.int .u64 0, .int .u64 0, .slice none 0 0]) 40 ?_ Tryz.underlying109 inf177 ?_ ?_ V.times rows [.int .u64 (F1 m1), .int .u64 (F2 m), .slice none 0 0] ?_ w5.heap.size ?_ hR ?_ ?_ ?_ ?_ ?_ ?_); (focus rfl); (focus rfl); (focus decide); (focus rfl); (focus rfl); (focus (exact fun j u hu => Blk.cell (Blk.made w5 [.int .u64 (F1 m1), .int .u64 (F2 m), .slice none 0 0] 177).drew j hu)); (focus (exact (ht.row.alloc _).nw (Nw.refl _).drew)); (focus (simp; omega)); (focus omega); (focus omega); intro v6 w6 hr6 hf6 ho6); obtain ⟨Av, cv, rfl, _⟩ := hr6.form; have hD6 := (h5.dd.alloc _).drew.fr hf6 hneD; have k6 := hD6.cell 14 rfl; have z6 := hD6.fz 14; have y6 : w6.cell? ⟨L, 0, none⟩ = some (.pointer (some ⟨D, 0, none⟩)) := ((Blk.alloc h5.lx _).drew.fr hf6 hneL).cell 0 rfl)
 all_goals
  go_wp2
  go_ret2
  obtain ⟨⟨ρ', h'⟩, hf'⟩ := h5.addTime ht hN hN2 (((Nw.refl _).alloc _).drew) hr6 hf6 ho6 hF1.wf hF2.wf rp
  refine Stepped.mk (by simpa using h') (by simpa using (hFw.mono (fun k _ e => e ▸ h.BL)).trans (hf'.mono (fun k _ e => .inl e))) ?_
  rfl
end Go.Proofs.YtcepdjlknalmnaaGreatDoor
namespace Go.Proofs.YtcepdjlknalmnaaGreatDoor
open Go.RowKit
set_option linter.unusedSimpArgs false
set_option linter.unusedVariables false
namespace Seg
variable {s : ByteArray} {p q : Nat} {a b l e : List UInt8} {c : UInt8}
theorem lend (h : Seg s q e) (he : e = [13, 10] ∨ e = [10]) : LineEnd s q (q + e.length) := by
 rcases he with rfl | rfl
 · exact .inr ⟨h.byte (i := 0) rfl, h.byte (i := 1) rfl, rfl⟩
 · exact .inl ⟨h.byte (i := 0) rfl, rfl⟩
theorem stopW (h : Seg s q (32 :: (l ++ a))) (hl : ∀ c ∈ l, 33 ≤ c.toNat) (h0 : l ≠ []) : Stops s q (q + 1) := by
 match l, h0 with
 | c :: l, _ => exact h.stop (hl c List.mem_cons_self)
end Seg
end Go.Proofs.YtcepdjlknalmnaaGreatDoor
namespace Go.Proofs.YtcepdjlknalmnaaGreatDoor
open Go.RowKit
set_option linter.unusedSimpArgs false
set_option linter.unusedVariables false
theorem word_ge {x : ByteArray} (h : word x = true) : (∀ c ∈ bs x, 33 ≤ c.toNat) ∧ bs x ≠ [] := by
 unfold word at h
 rw [Bool.and_eq_true, List.all_eq_true] at h
 refine ⟨fun c hc => ?_, fun e => ?_⟩
 · have := h.1 c hc
   unfold wordB at this
   simp at this
   omega
 · have := h.2
   rw [show x.data.toList = [] from e] at this
   simp at this
theorem line_ge {x : ByteArray} (h : line x = true) : ∀ c ∈ bs x, 32 ≤ c.toNat ∧ c.toNat ≤ 126 := by
 unfold line at h
 rw [Bool.and_eq_true, List.all_eq_true] at h
 intro c hc
 have := h.1 c hc
 unfold lineB at this
 simp at this
 omega
theorem in_ge {x : ByteArray} {xs : List ByteArray} (h : isIn x xs = true) (hx : xs.all (fun y => (bs y).all (fun c => decide (33 ≤ c.toNat)) && !(bs y).isEmpty) = true) : (∀ c ∈ bs x, 33 ≤ c.toNat) ∧ bs x ≠ [] := by
 obtain ⟨y, hy, e⟩ := isIn_mem h
 have := List.all_eq_true.1 hx y hy
 rw [Bool.and_eq_true, List.all_eq_true] at this
 rw [← e]
 refine ⟨fun c hc => by simpa using this.1 c hc, fun e0 => by rw [e0] at this; simp at this⟩
theorem dec_ge {n : Int} : (∀ c ∈ (Lib.decDigits (Int.toNat n)), 33 ≤ c.toNat) ∧ (Lib.decDigits (Int.toNat n)) ≠ [] := ⟨fun c hc => by have := dec_plain c hc; omega, dec_ne _⟩
theorem mk_bs (x : ByteArray) : mk (bs x) = x := rfl
end Go.Proofs.YtcepdjlknalmnaaGreatDoor
namespace Go.Proofs.YtcepdjlknalmnaaGreatDoor
open Go.RowKit
set_option linter.unusedSimpArgs false
set_option linter.unusedVariables false
variable {s : ByteArray} {p : Nat} {e : List UInt8}
theorem len_pos {l : List UInt8} (h : l ≠ []) : 0 < l.length := by
 cases l with
 | nil => exact absurd rfl h
 | cons c l => simp
theorem ip_ge {x : ByteArray} (h : isIn x ipTypes = true) : (∀ c ∈ bs x, 33 ≤ c.toNat) ∧ bs x ≠ [] := in_ge h (by decide)
theorem in_in {x : ByteArray} (h : isIn x inT = true) : (∀ c ∈ bs x, 33 ≤ c.toNat) ∧ bs x ≠ [] := in_ge h (by decide)
end Go.Proofs.YtcepdjlknalmnaaGreatDoor
namespace Go.Proofs.YtcepdjlknalmnaaGreatDoor
open Go.RowKit
set_option linter.unusedSimpArgs false
set_option linter.unusedVariables false
theorem txt_at {s : ByteArray} {p : Nat} {e : List UInt8} {x : ByteArray} (hx : line x = true) (h : Seg s p (bs x ++ e)) (he : isEnd e) : Whole s p (p + (bs x).length) ∧ LineEnd s (p + (bs x).length) (p + (bs x ++ e).length) ∧ s.extract p (p + (bs x).length) = x := by
 obtain ⟨g1, g2⟩ := Seg.app.1 h
 have := g2.lend he
 rw [List.length_append, ← Nat.add_assoc]
 exact ⟨g1.whole (fun c hc => (line_ge hx c hc).1), this, by rw [g1.extract, mk_bs]⟩
def Four : Ln → Prop
 | .lv => True
 | .lo _ => True
 | .ls _ => True
 | .lt _ => True
 | _ => False
set_option maxHeartbeats 1000000 in
theorem st_four (l : Ln) (hf : Four l) : StOk l := by
 intro B hB w ρ L D C s p n N q V a e h hs hE hI hfrom hN hN2 hok he hseg hn
 have hN3 : N ≤ 1000000000 := by omega
 cases l
 case lv =>
  have e0 : (Lib.decDigits (Int.toNat (0 : Int))) = [48] := by
   show Lib.decDigits 0 = _
   rw [Lib.decDigits_one (by decide)]; rfl
  have h1 : Seg s p ((Lib.decDigits (Int.toNat (0 : Int))) ++ e) := by rw [e0]; exact hseg
  obtain ⟨g1, g2⟩ := Seg.app.1 h1
  obtain ⟨F, hF, hv⟩ := g1.digits (by decide) (by decide)
  have hl := g2.lend he
  have hr : p + ((Ln.lv).body ++ e).length = p + ((Lib.decDigits (Int.toNat (0 : Int)))).length + e.length := by
   rw [show (Ln.lv).body = (Lib.decDigits (Int.toNat (0 : Int))) from e0.symm, List.length_append]; omega
  rw [hr] at hn ⊢
  exact step_lv B w ρ L D C s p _ _ q V a F h hs hE (Nat.le_add_right _ _) hF hv hl hn
 case lo o =>
  obtain ⟨k1, k2, k3, k4, k5, k6⟩ := hok
  have hb : (Ln.lo o).body ++ e = bs o.user ++ (32 :: ((Lib.decDigits (Int.toNat o.id)) ++ (32 :: ((Lib.decDigits (Int.toNat o.ver)) ++ (32 :: (bs o.net ++ (32 :: (bs o.addr ++ (32 :: (bs o.adr ++ e)))))))))) := by simp [Ln.body]
  rw [hb] at hseg hn ⊢
  obtain ⟨g1, g2⟩ := Seg.app.1 hseg
  obtain ⟨g3, g4⟩ := Seg.app.1 (Seg.cons.1 g2).2
  obtain ⟨g5, g6⟩ := Seg.app.1 (Seg.cons.1 g4).2
  obtain ⟨g7, g8⟩ := Seg.app.1 (Seg.cons.1 g6).2
  obtain ⟨g9, g10⟩ := Seg.app.1 (Seg.cons.1 g8).2
  obtain ⟨g11, g12⟩ := Seg.app.1 (Seg.cons.1 g10).2
  obtain ⟨F1, hF1, hv1⟩ := g3.digits k2.1 k2.2
  obtain ⟨F2, hF2, hv2⟩ := g5.digits k3.1 k3.2
  have hl := g12.lend he
  have w1 := word_ge k1
  have w4 := in_in k4
  have w5 := ip_ge k5
  have w6 := word_ge k6
  have hr : p + (bs o.user ++ (32 :: ((Lib.decDigits (Int.toNat o.id)) ++ (32 :: ((Lib.decDigits (Int.toNat o.ver)) ++ (32 :: (bs o.net ++ (32 :: (bs o.addr ++ (32 :: (bs o.adr ++ e))))))))))).length = p + (bs o.user).length + 1 + ((Lib.decDigits (Int.toNat o.id))).length + 1 + ((Lib.decDigits (Int.toNat o.ver))).length + 1 + (bs o.net).length + 1 + (bs o.addr).length + 1 + (bs o.adr).length + e.length := by
   simp only [List.length_append, List.length_cons]; omega
  rw [hr] at hn ⊢
  have := step_lo B hB w ρ L D C s p _ _ _ _ _ _ _ _ _ _ _ _ F1 F2 q V a h hs hE (Nat.le_add_right _ _) (g1.plain w1.1) (g2.stopW dec_ge.1 dec_ge.2) (Nat.le_add_right _ _) hF1 (g4.stopW dec_ge.1 dec_ge.2) (Nat.le_add_right _ _) hF2 (g6.stopW w4.1 w4.2) (Nat.le_add_right _ _) (g7.plain w4.1) (g8.stopW w5.1 w5.2)
   (Nat.lt_add_of_pos_right (len_pos w5.2)) (g9.plain w5.1) (g10.stopW w6.1 w6.2) (Nat.lt_add_of_pos_right (len_pos w6.2)) (g11.plain w6.1) hl hn (by rw [g7.extract, mk_bs]; exact k4) (by rw [g9.extract, mk_bs]; exact k5)
  rw [g1.extract, g7.extract, g9.extract, g11.extract, hv1, hv2, mk_bs, mk_bs, mk_bs, mk_bs] at this
  exact this
 case ls x =>
  obtain ⟨a1, a2, a3⟩ := txt_at hok hseg he
  have := step_ls B w ρ L D C s p _ _ q V h hs (Nat.le_add_right _ _) a1 a2
  rw [a3] at this
  exact this
 case lt t =>
  obtain ⟨k1, k2⟩ := hok
  have hb : (Ln.lt t).body ++ e = (Lib.decDigits (Int.toNat t.start)) ++ (32 :: ((Lib.decDigits (Int.toNat t.stop)) ++ e)) := by simp [Ln.body]
  rw [hb] at hseg hn ⊢
  obtain ⟨g1, g2⟩ := Seg.app.1 hseg
  obtain ⟨g3, g4⟩ := Seg.app.1 (Seg.cons.1 g2).2
  obtain ⟨F1, hF1, hv1⟩ := g1.digits k1.1 k1.2
  obtain ⟨F2, hF2, hv2⟩ := g3.digits k2.1 k2.2
  have hl := g4.lend he
  have hr : p + ((Lib.decDigits (Int.toNat t.start)) ++ (32 :: ((Lib.decDigits (Int.toNat t.stop)) ++ e))).length = p + ((Lib.decDigits (Int.toNat t.start))).length + 1 + ((Lib.decDigits (Int.toNat t.stop))).length + e.length := by
   simp only [List.length_append, List.length_cons]; omega
  rw [hr] at hn ⊢
  have := step_lt B hB w ρ L D C s p _ _ _ _ F1 F2 q V a N h hs hE hN hN3 (Nat.le_add_right _ _) hF1 (g2.stopW dec_ge.1 dec_ge.2) (Nat.le_add_right _ _) hF2 hl hn t.reps
  rw [hv1, hv2] at this
  exact this
 all_goals exact hf.elim
end Go.Proofs.YtcepdjlknalmnaaGreatDoor
namespace Go.Proofs.YtcepdjlknalmnaaGreatDoor
open Go.RowKit
set_option linter.unusedSimpArgs false
set_option linter.unusedVariables false
theorem fit_lens {x : Ssn} (hf : fitB1 x = true) : (x.bws.length ≤ 2147483647 ∧ x.atts.length ≤ 2147483647 ∧ x.times.length ≤ 2147483647 ∧ x.zones.length ≤ 2147483647 ∧ x.media.length ≤ 2147483647) ∧ (∀ t ∈ x.times, t.reps.length ≤ 2147483647 ∧ ∀ r ∈ t.reps, r.offs.length ≤ 2147483647) ∧
 (∀ y ∈ x.media, y.protos.length ≤ 2147483647 ∧ y.fmts.length ≤ 2147483647 ∧ y.bws.length ≤ 2147483647 ∧ y.atts.length ≤ 2147483647) := by
 obtain ⟨-, -, -, ⟨-, s1, s2, s3, s4, s5⟩, -, -, sm⟩ := ssn_sizes hf
 unfold fitB1 at hf
 simp only [Bool.and_eq_true] at hf
 obtain ⟨f0, f1, f2, f3, f4, f5, f6, f7, f8, f9, f10, f11, f12⟩ := hf
 refine ⟨⟨s1, s2, s3, s4, s5⟩, fun t ht => ?_, fun y hy => ?_⟩
 · unfold fitB10 fitB11 fitB12 fitB13 fLen at f8
   simp only [Bool.and_eq_true, List.all_eq_true, decide_eq_true_eq] at f8
   have h := f8.2 t ht
   exact ⟨h.1, fun r hr => h.2 r hr⟩
 · obtain ⟨h1, h2, h3, h4⟩ := sm y hy
   unfold fitB16 fLen at f12
   simp only [Bool.and_eq_true, List.all_eq_true, decide_eq_true_eq] at f12
   have h := f12.2 y hy
   unfold fitB17 at h
   simp only [Bool.and_eq_true] at h
   have g1 := h.2.2.1
   have g2 := h.2.2.2.1
   unfold fitB3 fLen at g1 g2
   simp only [Bool.and_eq_true, decide_eq_true_eq] at g1 g2
   exact ⟨g1.1, g2.1, h2, h3⟩
end Go.Proofs.YtcepdjlknalmnaaGreatDoor
/- The shortest description is read: works. Written by a small program of this claim's own (genwrk). -/
namespace Go.Proofs.YtcepdjlknalmnaaGreatDoor
open Go.RowKit
set_option linter.unusedSimpArgs false
set_option linter.unusedVariables false
attribute [local go_sem ↓] Go.wp_at_zero Go.wp_at_succ wp_store33
attribute [local go_sem] blockOf_ptr cellsOf_agg
def least : ByteArray := ⟨#[118, 61, 48, 13, 10, 111, 61, 45, 32, 49, 32, 49, 32, 73, 78, 32, 73, 80, 52, 32, 97, 13, 10, 115, 61, 120, 13, 10, 116, 61, 48, 32, 48, 13, 10]⟩
def x0 : Ssn := ⟨0, ⟨⟨#[45]⟩, 1, 1, ⟨#[73, 78]⟩, ⟨#[73, 80, 52]⟩, ⟨#[97]⟩⟩, ⟨#[120]⟩, [], [], [], [], [], [], [⟨0, 0, []⟩], [], [], [], []⟩
theorem x0_plain : PlainOk x0 := by
 rintro D w ⟨i, u, e, p, c, b, t, z, k, a, m, hD, hm⟩
 refine imp_plain x0 D w i u e p c b t z k a m hD hm (by unfold WfInt; decide) ⟨by decide, by decide, by decide, by decide, by decide⟩ (fun t ht => ?_) (fun y hy => by cases hy)
 obtain rfl := List.mem_singleton.1 ht
 exact ⟨by decide, fun r hr => by cases hr⟩
theorem x0_proper : proper x0 = true := by decide +kernel
theorem x0_big : SsnBig x0 := ⟨by decide, by decide, fun b hb => (by cases hb), fun t ht => (by obtain rfl := List.mem_singleton.1 ht; decide), fun z hz => (by cases hz), fun m hm => (by cases hm)⟩
theorem x0_four : ∀ l ∈ lns x0, Four l := by
 intro l hl
 have e : lns x0 = [.lv, .lo x0.org, .ls x0.name, .lt ⟨0, 0, []⟩] := rfl
 rw [e] at hl
 simp only [List.mem_cons, List.not_mem_nil, or_false] at hl
 rcases hl with rfl | rfl | rfl | rfl <;> trivial
theorem x0_text : joinEnds [13, 10] ((lns x0).map Ln.text) = bs least := by decide +kernel
theorem x0_fin : (Pst.zero.apps (lns x0)).fin = x0 := by
 obtain ⟨h1, h2, h3, h4, h5⟩ := lns_ok x0_proper x0_big
 rw [apps_lns x0 h3]
 rfl
theorem law_works (w : World) (a : Addr) (hE : Eof w a) : Calls Tryz.prog 12 #[] w fun e w' => e = .returned (.bool true) ∧ Nw w w' := by
 have HC : Hid (∀ w : World, Eof w a → Calls Tryz.prog 13 #[.string least] w fun ed w' => ∃ cs : Array Value, ed = .returned (.tuple #[.agg cs, .bool true]) ∧ Nw w w' ∧ cs.size = 19 ∧ cs.all (·.oneCell') = true ∧ cs[7]? = some (.string ⟨#[120]⟩)) := Lib.hid (fun w hE => by
  obtain ⟨h1, h2, h3, h4, h5⟩ := lns_ok x0_proper x0_big
  refine (imp_unmarshal w least [13, 10] [] (lns x0) a (by unfold WfStr strMax; decide) hE (.inl rfl) (.inl rfl) ?_ ?_ (path_lns x0 h3 h4).1 (fun l hl => ⟨h1 l hl, st_four l (x0_four l hl)⟩) h2 (fun _ => by rw [x0_fin]; exact x0_plain)).mono ?_
  · rw [List.append_nil, x0_text]
    intro i hi
    rw [Nat.zero_add]
  · rw [List.append_nil, x0_text, bs_len]
  · rintro ed w' ⟨hn, ⟨_, v, rfl, hv⟩ | ⟨h, _⟩⟩
    · rw [x0_fin] at hv
      obtain ⟨cs, rfl, hcs, hall⟩ := reads_row hv.now
      refine ⟨cs, rfl, hn, hcs, hall, ?_⟩
      obtain ⟨v0, v1, v2, v3, v4, v5, v6, v7, v8, v9, v10, he, m⟩ := hv.now
      injection he with he
      rw [he]
      rfl
    · exact absurd rfl h)
 unfold least at HC
 go_enter Tryz.func12, Tryz.ntmps12
 go_wp2_with (go_at_call 13; (with_reducible refine (HC.out _ hE).mono ?_); rintro ed w1 ⟨cs, rfl, hn, hcs, hall, h7⟩; have hst := storeOk_blk (Blk.made w1 [.int .i64 0, .string ⟨#[]⟩, .int .u64 0, .int .u64 0, .string ⟨#[]⟩, .string ⟨#[]⟩, .string ⟨#[]⟩, .string ⟨#[]⟩, .slice none 0 0, .slice none 0 0, .slice none 0 0, .slice none 0 0, .slice none 0 0, .slice none 0 0, .slice none 0 0, .slice none 0 0, .slice none 0 0, .slice none 0 0, .slice none 0 0] 33) rfl hcs hall; have hc7 := (blk_setRow (l2 := cs.toList) (Blk.made w1 [.int .i64 0, .string ⟨#[]⟩, .int .u64 0, .int .u64 0, .string ⟨#[]⟩, .string ⟨#[]⟩, .string ⟨#[]⟩, .string ⟨#[]⟩, .slice none 0 0, .slice none 0 0, .slice none 0 0, .slice none 0 0, .slice none 0 0, .slice none 0 0, .slice none 0 0, .slice none 0 0, .slice none 0 0, .slice none 0 0, .slice none 0 0] 33)).cell 7 (by simpa using h7))
 go_ret
 exact ⟨rfl, (hn.alloc _).setRow hn.size _⟩
end Go.Proofs.YtcepdjlknalmnaaGreatDoor

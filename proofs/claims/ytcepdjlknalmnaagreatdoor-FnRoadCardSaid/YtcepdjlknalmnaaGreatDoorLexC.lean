/- Laws of this claim. -/
import Derived.Test.YtcepdjlknalmnaaGreatDoorLexB
set_option linter.unusedSimpArgs false
set_option linter.unusedVariables false
namespace Go.Proofs.YtcepdjlknalmnaaGreatDoor
open Tryz
open Lib (hid)
open Go.RowKit
def qCl (s : ByteArray) (q r : Nat) : Prop := ∃ c, qAe s q c /\ ((qDm c = true /\ r = q) ∨ (qDm c = false /\ qNn c = true /\ r = q + 1 /\ ∃ c', qAe s (q + 1) c' /\ qNn c' = false))
def qB7 (s : ByteArray) (p q : Nat) : Prop := ∀ k, p <= k -> k < q -> ∃ ch, qAe s k ch /\ qDm ch = false /\ qNn ch = false
theorem qAe.lt {s : ByteArray} {p : Nat} {c : Int} (h : qAe s p c) : p < s.size := h.1
theorem qCl.lt {s : ByteArray} {q r : Nat} (h : qCl s q r) : q < s.size := by
 obtain ⟨c, h, _⟩ := h
 exact h.lt
set_option maxRecDepth 100000 in
set_option maxHeartbeats 1000000 in
theorem qAu (L : Nat) (d c : Value) (s : ByteArray) (p q r : Nat) (a : Addr) (w : World) (hL : Lx w L d c s p) (hs : qAb s) (hE : Eof w a) (hL0 : ¬ L = 0) (hpq : p <= q) (hpl : qB7 s p q) (hst : qCl s q r) :
 Calls prog 173 #[.pointer (some ⟨L, 2, none⟩)] w fun e w' => e = .returned (.tuple #[.string (s.extract p q), .nilIface]) /\ Lx w' L d c s r /\ Fr (fun k => k = L) w w' := by
 have hq := hst.lt
 have HP := hid hpl
 have hm : s.size <= 1152921504606846976 := hs
 clear hpl
 have l3 := Blk.cell hL 3 rfl
 go_enter func173, ntmps173
 go_wp2
 go_loopg [] (q - p) (fun n wr => ∃ k, n = q - k /\ p <= k /\ k <= q /\ Lx wr L d c s k /\ Fr (fun k => k = L) w wr)
 case atStart => exact ⟨p, rfl, Nat.le_refl _, hpq, hL, Fr.refl _ _⟩
 obtain ⟨k, hn, h1, h2, hx, hf⟩ := hrel
 have HK := hid hn
 clear hn
 have hE1 : Eof wr a := hE.fr hf (fun e => hL0 e.symm)
 have l3 := Blk.cell hx 3 rfl
 by_cases hlt : k < q
 · obtain ⟨ch, hb, hc, hc'⟩ := HP.out k h1 hlt
   go_wp2_with (first | (go_at_call 154; (with_reducible refine (qA0 L d c s k ch _ hx hb hs).mono ?_); rintro e w1 ⟨rfl, hx1, hf1⟩; have g1 : w1.cell? ⟨0, 0, none⟩ = some (.iface 348 (.pointer (some a))) := hE1.fr hf1 (fun e => hL0 e.symm)) | (go_at_call 142; (with_reducible refine (qFj a _).mono ?_); rintro e w' ⟨rfl, rfl⟩) | (go_at_call 155; (with_reducible refine (qBu ch _).mono ?_); rintro e w' ⟨rfl, rfl⟩) | (go_at_call 159; (with_reducible refine (qBs ch _).mono ?_); rintro e w' ⟨rfl, rfl⟩))
   go_roundg (q - (k + 1))
   case measure => have := HK.out; omega
   case rel => exact ⟨k + 1, rfl, by omega, by omega, hx1, hf.trans (hf1.mono (fun k _ e => .inl e))⟩
 obtain rfl : k = q := by omega
 obtain ⟨ch, hb, hc⟩ := hst
 have hki : ¬ (s.size : Int) < (k : Int) := by omega
 have hpi : ¬ (k : Int) < (p : Int) := by omega
 rcases hc with ⟨hc, rfl⟩ | ⟨hc, hc', rfl, c2, hb2, hc2⟩
 · go_wp2_with (first | (go_at_call 154; (with_reducible refine (qA0 L d c s r ch _ hx hb hs).mono ?_); rintro e w1 ⟨rfl, hx1, hf1⟩; have g1 : w1.cell? ⟨0, 0, none⟩ = some (.iface 348 (.pointer (some a))) := hE1.fr hf1 (fun e => hL0 e.symm)) | (go_at_call 142; (with_reducible refine (qFj a _).mono ?_); rintro e w' ⟨rfl, rfl⟩) | (go_at_call 155; (with_reducible refine (qBu ch _).mono ?_); rintro e w' ⟨rfl, rfl⟩) | (go_at_call 158; (with_reducible refine (qDn L d c s r _ hx1 hs hq).mono ?_); rintro e w2 ⟨rfl, hx2, hf2⟩; have m2 := Blk.cell hx2 2 rfl) | (go_at_call 198; (with_reducible refine (qEl _ _ _).mono ?_); rintro e w' ⟨rfl, rfl⟩))
   go_ret2
   exact ⟨rfl, hx2, (hf.trans (hf1.mono (fun k _ e => .inl e))).trans (hf2.mono (fun k _ e => .inl e))⟩
 have hq2 := hb2.lt
 go_wp2_with (first | (go_at_call 154; (with_reducible refine (qA0 L d c s _ _ _ hx hb hs).mono ?_); rintro e w1 ⟨rfl, hx1, hf1⟩; have hE2 : Eof w1 a := hE1.fr hf1 (fun e => hL0 e.symm); have g1 : w1.cell? ⟨0, 0, none⟩ = some (.iface 348 (.pointer (some a))) := hE2) | (go_at_call 142; (with_reducible refine (qFj a _).mono ?_); rintro e w' ⟨rfl, rfl⟩) | (go_at_call 155; (with_reducible refine (qBu _ _).mono ?_); rintro e w' ⟨rfl, rfl⟩) | (go_at_call 159; (with_reducible refine (qBs _ _).mono ?_); rintro e w' ⟨rfl, rfl⟩) | (go_at_call 160; (with_reducible refine (qEc L d c s (k + 1) (k + 1) a _ hx1 hs hE2 hL0 (Nat.le_refl _) (by omega) (fun j h1 h2 => by omega) (fun _ => ⟨c2, hb2, hc2⟩)).mono ?_); rintro e w2 ⟨rfl, hx2, hf2⟩; have m2 := Blk.cell hx2 2 rfl) | (go_at_call 198; (with_reducible refine (qEl _ _ _).mono ?_); rintro e w' ⟨rfl, rfl⟩))
 go_ret2
 exact ⟨rfl, hx2, (hf.trans (hf1.mono (fun k _ e => .inl e))).trans (hf2.mono (fun k _ e => .inl e))⟩
structure Digits (s : ByteArray) (p q : Nat) (V : Nat -> Int) : Prop where
 zero : V p = 0
 low : ∀ k, 0 <= V k
 high : ∀ k, k <= q -> V k < 18446744073709551616
 step : ∀ k, p <= k -> k < q -> ∃ e : Int, qAe s k (48 + e) /\ 0 <= e /\ e <= 9 /\ V (k + 1) = V k * 10 + e
set_option maxRecDepth 100000 in
set_option maxHeartbeats 4000000 in
theorem qBd (L : Nat) (d c : Value) (s : ByteArray) (p q r : Nat) (V : Nat -> Int) (a : Addr) (w : World) (hL : Lx w L d c s p) (hs : qAb s) (hE : Eof w a) (hL0 : ¬ L = 0) (hpq : p <= q) (hV : Digits s p q V) (hst : qCl s q r) :
 Calls prog 144 #[.pointer (some ⟨L, 2, none⟩)] w fun e w' => e = .returned (.tuple #[.int .u64 (V q), .nilIface]) /\ Lx w' L d c s r /\ Fr (fun k => k = L) w w' := by
 have hq := hst.lt
 have HV := hid hV
 have hm : s.size <= 1152921504606846976 := hs
 clear hV
 go_enter func144, ntmps144
 go_wp2
 go_loopg [2] (q - p) (fun n i wr => ∃ k v, n = q - k /\ p <= k /\ k <= q /\ i = .int .u64 v /\ v = V k /\ Lx wr L d c s k /\ Fr (fun k => k = L) w wr)
 case atStart => exact ⟨p, 0, rfl, Nat.le_refl _, hpq, rfl, HV.out.zero.symm, hL, Fr.refl _ _⟩
 obtain ⟨k, v, hn, h1, h2, rfl, hv, hx, hf⟩ := hrel
 have HK := hid hn
 have v0 := HV.out.low k
 have v1 := HV.out.high k h2
 rw [<- hv] at v0 v1
 have HVk := hid hv
 clear hn hv
 have hE1 : Eof wr a := hE.fr hf (fun e => hL0 e.symm)
 by_cases hlt : k < q
 · obtain ⟨ch, hb, hd0, hd9, hvs⟩ := HV.out.step k h1 hlt
   rw [<- HVk.out] at hvs
   have v2 := HV.out.low (k + 1)
   have v3 := HV.out.high (k + 1) (by omega)
   rw [hvs] at v2 v3
   have HS := hid hvs
   clear hvs
   have n0 : qDm (48 + ch) = false := by unfold qDm; simp; omega
   have n1 : qNn (48 + ch) = false := by unfold qNn; simp; omega
   obtain ⟨ch', hch⟩ : ∃ ch' : Int, ch' = 48 + ch := ⟨_, rfl⟩
   rw [<- hch] at hb n0 n1
   have hcases : (ch = 0 /\ ch' = 48) ∨ (ch = 1 /\ ch' = 49) ∨ (ch = 2 /\ ch' = 50) ∨ (ch = 3 /\ ch' = 51) ∨ (ch = 4 /\ ch' = 52) ∨ (ch = 5 /\ ch' = 53) ∨ (ch = 6 /\ ch' = 54) ∨ (ch = 7 /\ ch' = 55) ∨ (ch = 8 /\ ch' = 56) ∨ (ch = 9 /\ ch' = 57) := by omega
   clear hch hd0 hd9
   rcases hcases with ⟨rfl, rfl⟩ | ⟨rfl, rfl⟩ | ⟨rfl, rfl⟩ | ⟨rfl, rfl⟩ | ⟨rfl, rfl⟩ | ⟨rfl, rfl⟩ | ⟨rfl, rfl⟩ | ⟨rfl, rfl⟩ | ⟨rfl, rfl⟩ | ⟨rfl, rfl⟩
   all_goals
    go_wp2_with (first | (go_at_call 154; (with_reducible refine (qA0 L d c s _ _ _ hx hb hs).mono ?_); rintro e w1 ⟨rfl, hx1, hf1⟩; have hE2 : Eof w1 a := hE1.fr hf1 (fun e => hL0 e.symm); have g1 : w1.cell? ⟨0, 0, none⟩ = some (.iface 348 (.pointer (some a))) := hE2) | (go_at_call 142; (with_reducible refine (qFj a _).mono ?_); rintro e w' ⟨rfl, rfl⟩) | (go_at_call 155; (with_reducible refine (qBu _ _).mono ?_); rintro e w' ⟨rfl, rfl⟩) | (go_at_call 159; (with_reducible refine (qBs _ _).mono ?_); rintro e w' ⟨rfl, rfl⟩))
    go_roundg (q - (k + 1))
    case measure => have := HK.out; omega
    case rel => exact ⟨k + 1, _, rfl, by omega, by omega, rfl, by have := HS.out; omega, hx1, hf.trans (hf1.mono (fun k _ e => .inl e))⟩
 obtain rfl : k = q := by omega
 obtain ⟨ch, hb, hc⟩ := hst
 rcases hc with ⟨hc, rfl⟩ | ⟨hc, hc', rfl, c2, hb2, hc2⟩
 · go_wp2_with (first | (go_at_call 154; (with_reducible refine (qA0 L d c s _ _ _ hx hb hs).mono ?_); rintro e w1 ⟨rfl, hx1, hf1⟩; have hE2 : Eof w1 a := hE1.fr hf1 (fun e => hL0 e.symm); have g1 : w1.cell? ⟨0, 0, none⟩ = some (.iface 348 (.pointer (some a))) := hE2) | (go_at_call 142; (with_reducible refine (qFj a _).mono ?_); rintro e w' ⟨rfl, rfl⟩) | (go_at_call 155; (with_reducible refine (qBu _ _).mono ?_); rintro e w' ⟨rfl, rfl⟩) | (go_at_call 159; (with_reducible refine (qBs _ _).mono ?_); rintro e w' ⟨rfl, rfl⟩) | (go_at_call 158; (with_reducible refine (qDn L d c s r _ hx1 hs hq).mono ?_); rintro e w2 ⟨rfl, hx2, hf2⟩))
   go_ret2
   exact ⟨qJt (congrArg (Value.int .u64) HVk.out) rfl, hx2, (hf.trans (hf1.mono (fun k _ e => .inl e))).trans (hf2.mono (fun k _ e => .inl e))⟩
 have hq2 := hb2.lt
 go_wp2_with (first | (go_at_call 154; (with_reducible refine (qA0 L d c s _ _ _ hx hb hs).mono ?_); rintro e w1 ⟨rfl, hx1, hf1⟩; have hE2 : Eof w1 a := hE1.fr hf1 (fun e => hL0 e.symm); have g1 : w1.cell? ⟨0, 0, none⟩ = some (.iface 348 (.pointer (some a))) := hE2) | (go_at_call 142; (with_reducible refine (qFj a _).mono ?_); rintro e w' ⟨rfl, rfl⟩) | (go_at_call 155; (with_reducible refine (qBu _ _).mono ?_); rintro e w' ⟨rfl, rfl⟩) | (go_at_call 159; (with_reducible refine (qBs _ _).mono ?_); rintro e w' ⟨rfl, rfl⟩) | (go_at_call 160; (with_reducible refine (qEc L d c s (k + 1) (k + 1) a _ hx1 hs hE2 hL0 (Nat.le_refl _) (by omega) (fun j h1 h2 => by omega) (fun _ => ⟨c2, hb2, hc2⟩)).mono ?_); rintro e w2 ⟨rfl, hx2, hf2⟩))
 go_ret2
 exact ⟨qJt (congrArg (Value.int .u64) HVk.out) rfl, hx2, (hf.trans (hf1.mono (fun k _ e => .inl e))).trans (hf2.mono (fun k _ e => .inl e))⟩
theorem qDq (L : Nat) (d c : Value) (s : ByteArray) (p q r : Nat) (a : Addr) (w : World) (hL : Lx w L d c s p) (hs : qAb s) (hE : Eof w a) (hL0 : ¬ L = 0) (hpq : p < q) (hpl : qB7 s p q) (hst : qCl s q r) :
 Calls prog 200 #[.pointer (some ⟨L, 0, none⟩)] w fun e w' => e = .returned (.tuple #[.string (s.extract p q), .nilIface]) /\ Lx w' L d c s r /\ Fr (fun k => k = L) w w' := by
 have he : (s.extract p q).toList.isEmpty = false := by
  rw [qE5]
  have := hst.lt
  simp only [ByteArray.size_extract, decide_eq_false_iff_not]
  omega
 go_enter func200, ntmps200
 go_wp2_with (go_at_call 173; (with_reducible refine (qAu L d c s p q r a _ hL hs hE hL0 (Nat.le_of_lt hpq) hpl hst).mono ?_); rintro e w1 ⟨rfl, hx1, hf1⟩)
 go_ret2
 exact ⟨rfl, hx1, hf1⟩
def Whole (s : ByteArray) (p q : Nat) : Prop := ∀ k, p <= k -> k < q -> ∃ ch, qAe s k ch /\ qDm ch = false
def qA5 (s : ByteArray) (q r : Nat) : Prop := (qAe s q 10 /\ r = q + 1) ∨ (qAe s q 13 /\ qAe s (q + 1) 10 /\ r = q + 2)
theorem qA5.lt {s : ByteArray} {q r : Nat} (h : qA5 s q r) : q < s.size /\ q < r /\ r <= s.size := by
 rcases h with ⟨h, rfl⟩ | ⟨h, h', rfl⟩
 · have := h.lt; omega
 have := h'.lt; omega
theorem qFq (v : Value) (s : ByteArray) (w : World) : Calls prog 198 #[v, .string s] w fun e w' => e = .returned (.string s) /\ w' = w := (qEl v s w).mono (fun _ _ h => ⟨h.1, h.2.symm⟩)
set_option maxRecDepth 100000 in
set_option maxHeartbeats 1000000 in
theorem qBk (L : Nat) (d c : Value) (s : ByteArray) (p q r : Nat) (w : World) (hL : Lx w L d c s p) (hs : qAb s) (hpq : p <= q) (hpl : Whole s p q) (hst : qA5 s q r) :
 Calls prog 213 #[.pointer (some ⟨L, 2, none⟩)] w fun e w' => e = .returned (.tuple #[.string (s.extract p q), .nilIface]) /\ Lx w' L d c s r /\ Fr (fun k => k = L) w w' := by
 have hq := hst.lt
 have HP := hid hpl
 have hm : s.size <= 1152921504606846976 := hs
 clear hpl
 have l3 := Blk.cell hL 3 rfl
 go_enter func213, ntmps213
 go_wp2
 go_loopg [5] (r - p) (fun n i wr => ∃ k t, n = r - k /\ p <= k /\ k < r /\ i = .int .i64 t /\ t = 1 + ((k - q : Nat) : Int) /\ Lx wr L d c s k /\ Fr (fun k => k = L) w wr)
 case atStart => exact ⟨p, 1, rfl, Nat.le_refl _, by omega, rfl, by omega, hL, Fr.refl _ _⟩
 obtain ⟨k, t, hn, h1, h2, rfl, ht, hx, hf⟩ := hrel
 have HK := hid hn
 clear hn
 by_cases hlt : k < q
 · obtain rfl : t = 1 := by omega
   obtain ⟨ch, hb, hc⟩ := HP.out k h1 hlt
   clear ht
   have c1 : (ch == 13) = false := by unfold qDm at hc; simp at hc ⊢; omega
   have c2 : (ch == 10) = false := by unfold qDm at hc; simp at hc ⊢; omega
   clear hc
   go_wp2_with (go_at_call 154; (with_reducible refine (qA0 L d c s k ch _ hx hb hs).mono ?_); rintro e w1 ⟨rfl, hx1, hf1⟩)
   go_roundg (r - (k + 1))
   case measure => have := HK.out; omega
   case rel => exact ⟨k + 1, 1, rfl, by omega, by omega, rfl, by omega, hx1, hf.trans (hf1.mono (fun k _ e => .inl e))⟩
 have hsub : ∀ (j : Nat) (z : Int), z = (j : Int) -> z.toNat = j := fun j z h => by omega
 rcases hst with ⟨hb, rfl⟩ | ⟨hb, hb', rfl⟩
 · obtain rfl : k = q := by omega
   obtain rfl : t = 1 := by omega
   clear ht
   go_wp2_with (go_at_call 154; (with_reducible refine (qA0 L d c s k 10 _ hx hb hs).mono ?_); rintro e w1 ⟨rfl, hx1, hf1⟩; have m2 := Blk.cell hx1 2 rfl; have m3 := Blk.cell hx1 3 rfl)
   have m3' : w1.cell? ⟨L, 3, none⟩ = some (.int .i64 ((k : Int) + 1)) := m3
   clear m3
   have hw : IntKind.i64.wrap ((k : Int) + 1 - 1) = (k : Int) := by
    rw [IntWalk.i64_in _ (by omega)]; omega
   have b1 : (0 : Int) <= (p : Int) := by omega
   have b2 : (p : Int) <= (k : Int) := by omega
   have b3 : (k : Int) <= (s.size : Int) := by omega
   go_quiet ((go_at_call 198; exact Calls.quiet_of_same (qFq _ _ _)))
   go_wp2
   go_ret2
   exact ⟨rfl, Blk.drewN hx1 _, (hf.trans (hf1.mono (fun k _ e => .inl e))).drewN _⟩
 by_cases hk : k = q
 · subst hk
   obtain rfl : t = 1 := by omega
   clear ht
   go_wp2_with (go_at_call 154; (with_reducible refine (qA0 L d c s k 13 _ hx hb hs).mono ?_); rintro e w1 ⟨rfl, hx1, hf1⟩)
   go_roundg (k + 2 - (k + 1))
   case measure => have := HK.out; omega
   case rel => exact ⟨k + 1, 2, rfl, by omega, by omega, rfl, by omega, hx1, hf.trans (hf1.mono (fun k _ e => .inl e))⟩
 obtain rfl : k = q + 1 := by omega
 obtain rfl : t = 2 := by omega
 clear ht hk hlt h2
 go_wp2_with (go_at_call 154; (with_reducible refine (qA0 L d c s (q + 1) 10 _ hx hb' hs).mono ?_); rintro e w1 ⟨rfl, hx1, hf1⟩; have m2 := Blk.cell hx1 2 rfl; have m3 := Blk.cell hx1 3 rfl)
 have m3' : w1.cell? ⟨L, 3, none⟩ = some (.int .i64 ((q : Int) + 2)) := m3
 clear m3
 have hw : IntKind.i64.wrap ((q : Int) + 2 - 2) = (q : Int) := by
  rw [IntWalk.i64_in _ (by omega)]; omega
 have b1 : (0 : Int) <= (p : Int) := by omega
 have b2 : (p : Int) <= (q : Int) := by omega
 have b3 : (q : Int) <= (s.size : Int) := by omega
 go_quiet ((go_at_call 198; exact Calls.quiet_of_same (qFq _ _ _)))
 go_wp2
 go_ret2
 exact ⟨rfl, Blk.drewN hx1 _, (hf.trans (hf1.mono (fun k _ e => .inl e))).drewN _⟩
theorem qHo (L : Nat) (d c : Value) (s : ByteArray) (p : Nat) (ch : Int) (w : World) (hL : Lx w L d c s p) (hs : qAb s) (hb : qAe s p ch) (hc : qDm ch = false) (hb' : qAe s (p + 1) 61) :
 Calls prog 141 #[.pointer (some ⟨L, 2, none⟩)] w fun e w' => e = .returned (.tuple #[.int .u8 ch, .nilIface]) /\ Lx w' L d c s (p + 2) /\ Fr (fun k => k = L) w w' := by
 go_enter func141, ntmps141
 go_wp2
 go_loopg [] 1 (fun n wr => n = 1 /\ wr = w)
 case atStart => exact ⟨rfl, rfl⟩
 obtain ⟨hn, rfl⟩ := hrel
 clear hn
 go_wp2_with (first | (go_at_call 155; (with_reducible refine (qBu _ _).mono ?_); rintro e w' ⟨rfl, rfl⟩) | (go_at_call 154; (with_reducible refine (qA0 L d c s p ch _ hL hb hs).mono ?_); rintro e w1 ⟨rfl, hx1, hf1⟩) | (go_at_call 154; (with_reducible refine (qA0 L d c s (p + 1) 61 _ hx1 hb' hs).mono ?_); rintro e w2 ⟨rfl, hx2, hf2⟩))
 go_ret2
 exact ⟨rfl, hx2, hf1.trans (hf2.mono (fun k _ e => .inl e))⟩
theorem qH0 (L : Nat) (d c : Value) (s : ByteArray) (a : Addr) (w : World) (hL : Lx w L d c s s.size) (hs : qAb s) (hE : Eof w a) :
 Calls prog 141 #[.pointer (some ⟨L, 2, none⟩)] w fun e w' => e = .returned (.tuple #[.int .u8 0, .iface 348 (.pointer (some a))]) /\ Lx w' L d c s s.size /\ Fr (fun k => k = L) w w' := by
 go_enter func141, ntmps141
 go_wp2
 go_loopg [] 1 (fun n wr => n = 1 /\ wr = w)
 case atStart => exact ⟨rfl, rfl⟩
 obtain ⟨hn, rfl⟩ := hrel
 clear hn
 have hnn : ∀ (v : Value) (w : World), (binOp .neq 118 (.iface 348 v) .nilIface).run prog w = .ok (.bool true) w := fun v w => by kernel_rfl
 go_wp2_with (first | (go_at_call 154; (with_reducible refine (qDu L d c s a _ hL hs hE).mono ?_); rintro e w1 ⟨rfl, hx1, hf1⟩))
 go_ret2
 exact ⟨rfl, hx1, hf1⟩
end Go.Proofs.YtcepdjlknalmnaaGreatDoor

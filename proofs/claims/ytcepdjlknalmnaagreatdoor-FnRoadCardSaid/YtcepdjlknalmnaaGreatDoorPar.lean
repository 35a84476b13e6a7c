/- Laws of this claim. -/
import Derived.Test.YtcepdjlknalmnaaGreatDoorLexC
import Derived.Test.YtcepdjlknalmnaaGreatDoorZj
set_option linter.unusedSimpArgs false
set_option linter.unusedVariables false
namespace Go.Proofs.YtcepdjlknalmnaaGreatDoor
open Tryz
open List (mem_cons not_mem_nil)
open Lib (hid)
open Go.RowKit
abbrev fv (f : Nat) : Value := .func (.func f) #[] #[]
def qAw (f : Nat) : Prop := ∀ (args : Array Value) (w : World), (callFunc f args).run prog w = .ok (.enter f args) w
set_option maxRecDepth 100000 in
theorem qAp (f G : Nat) (L : Nat) (d c : Value) (s : ByteArray) (p : Nat) (ch : Int) (a : Addr) (w : World) (hL : Lx w L d c s p) (hs : qAb s) (hb : qAe s p ch) (hc : qDm ch = false) (hb' : qAe s (p + 1) 61) (hE : Eof w a) (hL0 : ¬ L = 0)
 (he : qAw f) (hf : ∀ w, Calls prog f #[.int .u8 ch] w fun e w' => e = .returned (fv G) /\ w = w') :
 Calls prog 119 #[.pointer (some ⟨L, 0, none⟩), fv f] w fun e w' => e = .returned (.tuple #[fv G, .nilIface]) /\ Lx w' L d c s (p + 2) /\ Fr (fun k => k = L) w w' := by
 have HF := hid hf
 have hen : ∀ (args : Array Value) (w : World), (callFunc f args).run prog w = .ok (.enter f args) w := he
 clear hf he
 go_enter func119, ntmps119
 go_wp2_with (first | (go_at_call 141; (with_reducible refine (qHo L d c s p ch _ hL hs hb hc hb').mono ?_); rintro e w1 ⟨rfl, hx1, hf1⟩; have hE2 : Eof w1 a := hE.fr hf1 (fun e => hL0 e.symm); have g1 : w1.cell? ⟨0, 0, none⟩ = some (.iface 348 (.pointer (some a))) := hE2) | (go_at_call 142; (with_reducible refine (qFj a _).mono ?_); rintro e w' ⟨rfl, rfl⟩))
 refine (HF.out _).mono ?_
 rintro e w' ⟨rfl, rfl⟩
 have hq : ∀ w : World, (binOp .neq 157 (.func (.func G) #[] #[]) .nilFunc).run prog w = .ok (.bool true) w := fun w => by kernel_rfl
 go_wp2
 go_ret2
 exact ⟨rfl, hx1, hf1⟩
set_option maxRecDepth 100000 in
theorem qAi (f : Nat) (L : Nat) (d c : Value) (s : ByteArray) (p : Nat) (ch : Int) (a : Addr) (w : World) (hL : Lx w L d c s p) (hs : qAb s) (hb : qAe s p ch) (hc : qDm ch = false) (hb' : qAe s (p + 1) 61) (hE : Eof w a) (hL0 : ¬ L = 0)
 (he : qAw f) (hf : ∀ w, Calls prog f #[.int .u8 ch] w fun e w' => e = .returned .nilFunc /\ w = w') :
 Calls prog 119 #[.pointer (some ⟨L, 0, none⟩), fv f] w fun e w' => (∃ v, e = .returned (.tuple #[.nilFunc, .iface 250 v])) /\ Fr (fun k => k = L) w w' := by
 have HF := hid hf
 have hen : ∀ (args : Array Value) (w : World), (callFunc f args).run prog w = .ok (.enter f args) w := he
 have hp2 := hb'.lt
 clear hf he
 go_enter func119, ntmps119
 go_wp2_with (first | (go_at_call 141; (with_reducible refine (qHo L d c s p ch _ hL hs hb hc hb').mono ?_); rintro e w1 ⟨rfl, hx1, hf1⟩; have hE2 : Eof w1 a := hE.fr hf1 (fun e => hL0 e.symm); have g1 : w1.cell? ⟨0, 0, none⟩ = some (.iface 348 (.pointer (some a))) := hE2) | (go_at_call 142; (with_reducible refine (qFj a _).mono ?_); rintro e w' ⟨rfl, rfl⟩))
 refine (HF.out _).mono ?_
 rintro e w' ⟨rfl, rfl⟩
 have hq : ∀ w : World, (binOp .neq 157 .nilFunc .nilFunc).run prog w = .ok (.bool false) w := fun w => by kernel_rfl
 go_wp2_with (go_at_call 143; (with_reducible refine (qH9 L d c s (p + 2) _ hx1 hs (by omega)).mono ?_); rintro e w2 ⟨⟨v, rfl⟩, hx2, hf2⟩)
 go_ret2
 exact ⟨⟨v, rfl⟩, hf1.trans (hf2.mono (fun k _ e => .inl e))⟩
set_option maxRecDepth 100000 in
theorem qAh (f : Nat) (L : Nat) (d c : Value) (s : ByteArray) (a : Addr) (w : World) (hL : Lx w L d c s s.size) (hs : qAb s) (hE : Eof w a) (hL0 : ¬ L = 0) :
 Calls prog 119 #[.pointer (some ⟨L, 0, none⟩), fv f] w fun e w' => e = .returned (.tuple #[.nilFunc, .nilIface]) /\ Lx w' L d c s s.size /\ Fr (fun k => k = L) w w' := by
 go_enter func119, ntmps119
 go_wp2_with (first | (go_at_call 141; (with_reducible refine (qH0 L d c s a _ hL hs hE).mono ?_); rintro e w1 ⟨rfl, hx1, hf1⟩; have hE2 : Eof w1 a := hE.fr hf1 (fun e => hL0 e.symm); have g1 : w1.cell? ⟨0, 0, none⟩ = some (.iface 348 (.pointer (some a))) := hE2) | (go_at_call 142; (with_reducible refine (qLs a _).mono ?_); rintro e w' ⟨rfl, rfl⟩))
 go_ret2
 exact ⟨rfl, hx1, hf1⟩
theorem enters64 : qAw 64 := fun _ _ => by kernel_rfl
theorem qKi : qAw 120 := fun _ _ => by kernel_rfl
theorem clo1_118 (w : World) : Calls prog 120 #[.int .u8 118] w fun e w' => e = .returned (fv 121) /\ w = w' := by
 go_enter func120, ntmps120
 go_wp2
 go_ret
 exact ⟨rfl, rfl⟩
theorem clo1_no (c : Int) (w : World) (h : c <= 96) : Calls prog 120 #[.int .u8 c] w fun e w' => e = .returned .nilFunc /\ w = w' := by
 have k118 : (c == 118) = false := by simp; omega
 go_enter func120, ntmps120
 go_wp2
 go_ret
 exact ⟨rfl, rfl⟩
theorem st1 (G : Nat) (L : Nat) (d c : Value) (s : ByteArray) (p : Nat) (ch : Int) (a : Addr) (w : World) (hL : Lx w L d c s p) (hs : qAb s) (hb : qAe s p ch) (hc : qDm ch = false) (hb' : qAe s (p + 1) 61) (hE : Eof w a) (hL0 : ¬ L = 0)
 (hf : ∀ w, Calls prog 120 #[.int .u8 ch] w fun e w' => e = .returned (fv G) /\ w = w') :
 Calls prog 64 #[.pointer (some ⟨L, 0, none⟩)] w fun e w' => e = .returned (.tuple #[fv G, .nilIface]) /\ Lx w' L d c s (p + 2) /\ Fr (fun k => k = L) w w' := by
 have HF := hid hf
 clear hf
 go_enter func64, ntmps64
 go_wp2_with (go_at_call 119; (with_reducible refine (qAp 120 G L d c s p ch a _ hL hs hb hc hb' hE hL0 qKi HF.out).mono ?_); rintro e w1 ⟨rfl, hx1, hf1⟩)
 go_ret2
 exact ⟨rfl, hx1, hf1⟩
theorem st1_no (L : Nat) (d c : Value) (s : ByteArray) (p : Nat) (ch : Int) (a : Addr) (w : World) (hL : Lx w L d c s p) (hs : qAb s) (hb : qAe s p ch) (hc : qDm ch = false) (hb' : qAe s (p + 1) 61) (hE : Eof w a) (hL0 : ¬ L = 0) (h : ch <= 96) :
 Calls prog 64 #[.pointer (some ⟨L, 0, none⟩)] w fun e w' => (∃ v, e = .returned (.tuple #[.nilFunc, .iface 250 v])) /\ Fr (fun k => k = L) w w' := by
 go_enter func64, ntmps64
 go_wp2_with (go_at_call 119; (with_reducible refine (qAi 120 L d c s p ch a _ hL hs hb hc hb' hE hL0 qKi (fun w => clo1_no ch w h)).mono ?_); rintro e w1 ⟨⟨v, rfl⟩, hf1⟩)
 go_ret2
 exact ⟨⟨v, rfl⟩, hf1⟩
theorem st1_end (L : Nat) (d c : Value) (s : ByteArray) (a : Addr) (w : World) (hL : Lx w L d c s s.size) (hs : qAb s) (hE : Eof w a) (hL0 : ¬ L = 0) :
 Calls prog 64 #[.pointer (some ⟨L, 0, none⟩)] w fun e w' => e = .returned (.tuple #[.nilFunc, .nilIface]) /\ Lx w' L d c s s.size /\ Fr (fun k => k = L) w w' := by
 go_enter func64, ntmps64
 go_wp2_with (go_at_call 119; (with_reducible refine (qAh 120 L d c s a _ hL hs hE hL0).mono ?_); rintro e w1 ⟨rfl, hx1, hf1⟩)
 go_ret2
 exact ⟨rfl, hx1, hf1⟩
theorem qOg : qAw 146 := fun _ _ => by kernel_rfl
theorem qKj : qAw 161 := fun _ _ => by kernel_rfl
theorem clo2_111 (w : World) : Calls prog 161 #[.int .u8 111] w fun e w' => e = .returned (fv 162) /\ w = w' := by
 go_enter func161, ntmps161
 go_wp2
 go_ret
 exact ⟨rfl, rfl⟩
theorem clo2_no (c : Int) (w : World) (h : c <= 96) : Calls prog 161 #[.int .u8 c] w fun e w' => e = .returned .nilFunc /\ w = w' := by
 have k111 : (c == 111) = false := by simp; omega
 go_enter func161, ntmps161
 go_wp2
 go_ret
 exact ⟨rfl, rfl⟩
theorem st2 (G : Nat) (L : Nat) (d c : Value) (s : ByteArray) (p : Nat) (ch : Int) (a : Addr) (w : World) (hL : Lx w L d c s p) (hs : qAb s) (hb : qAe s p ch) (hc : qDm ch = false) (hb' : qAe s (p + 1) 61) (hE : Eof w a) (hL0 : ¬ L = 0)
 (hf : ∀ w, Calls prog 161 #[.int .u8 ch] w fun e w' => e = .returned (fv G) /\ w = w') :
 Calls prog 146 #[.pointer (some ⟨L, 0, none⟩)] w fun e w' => e = .returned (.tuple #[fv G, .nilIface]) /\ Lx w' L d c s (p + 2) /\ Fr (fun k => k = L) w w' := by
 have HF := hid hf
 clear hf
 go_enter func146, ntmps146
 go_wp2_with (go_at_call 119; (with_reducible refine (qAp 161 G L d c s p ch a _ hL hs hb hc hb' hE hL0 qKj HF.out).mono ?_); rintro e w1 ⟨rfl, hx1, hf1⟩)
 go_ret2
 exact ⟨rfl, hx1, hf1⟩
theorem st2_no (L : Nat) (d c : Value) (s : ByteArray) (p : Nat) (ch : Int) (a : Addr) (w : World) (hL : Lx w L d c s p) (hs : qAb s) (hb : qAe s p ch) (hc : qDm ch = false) (hb' : qAe s (p + 1) 61) (hE : Eof w a) (hL0 : ¬ L = 0) (h : ch <= 96) :
 Calls prog 146 #[.pointer (some ⟨L, 0, none⟩)] w fun e w' => (∃ v, e = .returned (.tuple #[.nilFunc, .iface 250 v])) /\ Fr (fun k => k = L) w w' := by
 go_enter func146, ntmps146
 go_wp2_with (go_at_call 119; (with_reducible refine (qAi 161 L d c s p ch a _ hL hs hb hc hb' hE hL0 qKj (fun w => clo2_no ch w h)).mono ?_); rintro e w1 ⟨⟨v, rfl⟩, hf1⟩)
 go_ret2
 exact ⟨⟨v, rfl⟩, hf1⟩
theorem st2_end (L : Nat) (d c : Value) (s : ByteArray) (a : Addr) (w : World) (hL : Lx w L d c s s.size) (hs : qAb s) (hE : Eof w a) (hL0 : ¬ L = 0) :
 Calls prog 146 #[.pointer (some ⟨L, 0, none⟩)] w fun e w' => e = .returned (.tuple #[.nilFunc, .nilIface]) /\ Lx w' L d c s s.size /\ Fr (fun k => k = L) w w' := by
 go_enter func146, ntmps146
 go_wp2_with (go_at_call 119; (with_reducible refine (qAh 161 L d c s a _ hL hs hE hL0).mono ?_); rintro e w1 ⟨rfl, hx1, hf1⟩)
 go_ret2
 exact ⟨rfl, hx1, hf1⟩
theorem qOh : qAw 177 := fun _ _ => by kernel_rfl
theorem qKk : qAw 201 := fun _ _ => by kernel_rfl
theorem clo3_115 (w : World) : Calls prog 201 #[.int .u8 115] w fun e w' => e = .returned (fv 202) /\ w = w' := by
 go_enter func201, ntmps201
 go_wp2
 go_ret
 exact ⟨rfl, rfl⟩
theorem clo3_no (c : Int) (w : World) (h : c <= 96) : Calls prog 201 #[.int .u8 c] w fun e w' => e = .returned .nilFunc /\ w = w' := by
 have k115 : (c == 115) = false := by simp; omega
 go_enter func201, ntmps201
 go_wp2
 go_ret
 exact ⟨rfl, rfl⟩
theorem st3 (G : Nat) (L : Nat) (d c : Value) (s : ByteArray) (p : Nat) (ch : Int) (a : Addr) (w : World) (hL : Lx w L d c s p) (hs : qAb s) (hb : qAe s p ch) (hc : qDm ch = false) (hb' : qAe s (p + 1) 61) (hE : Eof w a) (hL0 : ¬ L = 0)
 (hf : ∀ w, Calls prog 201 #[.int .u8 ch] w fun e w' => e = .returned (fv G) /\ w = w') :
 Calls prog 177 #[.pointer (some ⟨L, 0, none⟩)] w fun e w' => e = .returned (.tuple #[fv G, .nilIface]) /\ Lx w' L d c s (p + 2) /\ Fr (fun k => k = L) w w' := by
 have HF := hid hf
 clear hf
 go_enter func177, ntmps177
 go_wp2_with (go_at_call 119; (with_reducible refine (qAp 201 G L d c s p ch a _ hL hs hb hc hb' hE hL0 qKk HF.out).mono ?_); rintro e w1 ⟨rfl, hx1, hf1⟩)
 go_ret2
 exact ⟨rfl, hx1, hf1⟩
theorem st3_no (L : Nat) (d c : Value) (s : ByteArray) (p : Nat) (ch : Int) (a : Addr) (w : World) (hL : Lx w L d c s p) (hs : qAb s) (hb : qAe s p ch) (hc : qDm ch = false) (hb' : qAe s (p + 1) 61) (hE : Eof w a) (hL0 : ¬ L = 0) (h : ch <= 96) :
 Calls prog 177 #[.pointer (some ⟨L, 0, none⟩)] w fun e w' => (∃ v, e = .returned (.tuple #[.nilFunc, .iface 250 v])) /\ Fr (fun k => k = L) w w' := by
 go_enter func177, ntmps177
 go_wp2_with (go_at_call 119; (with_reducible refine (qAi 201 L d c s p ch a _ hL hs hb hc hb' hE hL0 qKk (fun w => clo3_no ch w h)).mono ?_); rintro e w1 ⟨⟨v, rfl⟩, hf1⟩)
 go_ret2
 exact ⟨⟨v, rfl⟩, hf1⟩
theorem st3_end (L : Nat) (d c : Value) (s : ByteArray) (a : Addr) (w : World) (hL : Lx w L d c s s.size) (hs : qAb s) (hE : Eof w a) (hL0 : ¬ L = 0) :
 Calls prog 177 #[.pointer (some ⟨L, 0, none⟩)] w fun e w' => e = .returned (.tuple #[.nilFunc, .nilIface]) /\ Lx w' L d c s s.size /\ Fr (fun k => k = L) w w' := by
 go_enter func177, ntmps177
 go_wp2_with (go_at_call 119; (with_reducible refine (qAh 201 L d c s a _ hL hs hE hL0).mono ?_); rintro e w1 ⟨rfl, hx1, hf1⟩)
 go_ret2
 exact ⟨rfl, hx1, hf1⟩
theorem qOi : qAw 214 := fun _ _ => by kernel_rfl
theorem qKl : qAw 216 := fun _ _ => by kernel_rfl
theorem clo4_105 (w : World) : Calls prog 216 #[.int .u8 105] w fun e w' => e = .returned (fv 217) /\ w = w' := by
 go_enter func216, ntmps216
 go_wp2
 go_ret
 exact ⟨rfl, rfl⟩
theorem clo4_117 (w : World) : Calls prog 216 #[.int .u8 117] w fun e w' => e = .returned (fv 218) /\ w = w' := by
 go_enter func216, ntmps216
 go_wp2
 go_ret
 exact ⟨rfl, rfl⟩
theorem clo4_101 (w : World) : Calls prog 216 #[.int .u8 101] w fun e w' => e = .returned (fv 219) /\ w = w' := by
 go_enter func216, ntmps216
 go_wp2
 go_ret
 exact ⟨rfl, rfl⟩
theorem clo4_112 (w : World) : Calls prog 216 #[.int .u8 112] w fun e w' => e = .returned (fv 220) /\ w = w' := by
 go_enter func216, ntmps216
 go_wp2
 go_ret
 exact ⟨rfl, rfl⟩
theorem clo4_99 (w : World) : Calls prog 216 #[.int .u8 99] w fun e w' => e = .returned (fv 221) /\ w = w' := by
 go_enter func216, ntmps216
 go_wp2
 go_ret
 exact ⟨rfl, rfl⟩
theorem clo4_98 (w : World) : Calls prog 216 #[.int .u8 98] w fun e w' => e = .returned (fv 222) /\ w = w' := by
 go_enter func216, ntmps216
 go_wp2
 go_ret
 exact ⟨rfl, rfl⟩
theorem clo4_116 (w : World) : Calls prog 216 #[.int .u8 116] w fun e w' => e = .returned (fv 223) /\ w = w' := by
 go_enter func216, ntmps216
 go_wp2
 go_ret
 exact ⟨rfl, rfl⟩
theorem clo4_no (c : Int) (w : World) (h : c <= 96) : Calls prog 216 #[.int .u8 c] w fun e w' => e = .returned .nilFunc /\ w = w' := by
 have k105 : (c == 105) = false := by simp; omega
 have k117 : (c == 117) = false := by simp; omega
 have k101 : (c == 101) = false := by simp; omega
 have k112 : (c == 112) = false := by simp; omega
 have k99 : (c == 99) = false := by simp; omega
 have k98 : (c == 98) = false := by simp; omega
 have k116 : (c == 116) = false := by simp; omega
 go_enter func216, ntmps216
 go_wp2
 go_ret
 exact ⟨rfl, rfl⟩
theorem st4 (G : Nat) (L : Nat) (d c : Value) (s : ByteArray) (p : Nat) (ch : Int) (a : Addr) (w : World) (hL : Lx w L d c s p) (hs : qAb s) (hb : qAe s p ch) (hc : qDm ch = false) (hb' : qAe s (p + 1) 61) (hE : Eof w a) (hL0 : ¬ L = 0)
 (hf : ∀ w, Calls prog 216 #[.int .u8 ch] w fun e w' => e = .returned (fv G) /\ w = w') :
 Calls prog 214 #[.pointer (some ⟨L, 0, none⟩)] w fun e w' => e = .returned (.tuple #[fv G, .nilIface]) /\ Lx w' L d c s (p + 2) /\ Fr (fun k => k = L) w w' := by
 have HF := hid hf
 clear hf
 go_enter func214, ntmps214
 go_wp2_with (go_at_call 119; (with_reducible refine (qAp 216 G L d c s p ch a _ hL hs hb hc hb' hE hL0 qKl HF.out).mono ?_); rintro e w1 ⟨rfl, hx1, hf1⟩)
 go_ret2
 exact ⟨rfl, hx1, hf1⟩
theorem st4_no (L : Nat) (d c : Value) (s : ByteArray) (p : Nat) (ch : Int) (a : Addr) (w : World) (hL : Lx w L d c s p) (hs : qAb s) (hb : qAe s p ch) (hc : qDm ch = false) (hb' : qAe s (p + 1) 61) (hE : Eof w a) (hL0 : ¬ L = 0) (h : ch <= 96) :
 Calls prog 214 #[.pointer (some ⟨L, 0, none⟩)] w fun e w' => (∃ v, e = .returned (.tuple #[.nilFunc, .iface 250 v])) /\ Fr (fun k => k = L) w w' := by
 go_enter func214, ntmps214
 go_wp2_with (go_at_call 119; (with_reducible refine (qAi 216 L d c s p ch a _ hL hs hb hc hb' hE hL0 qKl (fun w => clo4_no ch w h)).mono ?_); rintro e w1 ⟨⟨v, rfl⟩, hf1⟩)
 go_ret2
 exact ⟨⟨v, rfl⟩, hf1⟩
theorem st4_end (L : Nat) (d c : Value) (s : ByteArray) (a : Addr) (w : World) (hL : Lx w L d c s s.size) (hs : qAb s) (hE : Eof w a) (hL0 : ¬ L = 0) :
 Calls prog 214 #[.pointer (some ⟨L, 0, none⟩)] w fun e w' => e = .returned (.tuple #[.nilFunc, .nilIface]) /\ Lx w' L d c s s.size /\ Fr (fun k => k = L) w w' := by
 go_enter func214, ntmps214
 go_wp2_with (go_at_call 119; (with_reducible refine (qAh 216 L d c s a _ hL hs hE hL0).mono ?_); rintro e w1 ⟨rfl, hx1, hf1⟩)
 go_ret2
 exact ⟨rfl, hx1, hf1⟩
theorem qOj : qAw 230 := fun _ _ => by kernel_rfl
theorem qKm : qAw 237 := fun _ _ => by kernel_rfl
theorem clo5_98 (w : World) : Calls prog 237 #[.int .u8 98] w fun e w' => e = .returned (fv 222) /\ w = w' := by
 go_enter func237, ntmps237
 go_wp2
 go_ret
 exact ⟨rfl, rfl⟩
theorem clo5_116 (w : World) : Calls prog 237 #[.int .u8 116] w fun e w' => e = .returned (fv 223) /\ w = w' := by
 go_enter func237, ntmps237
 go_wp2
 go_ret
 exact ⟨rfl, rfl⟩
theorem clo5_no (c : Int) (w : World) (h : c <= 96) : Calls prog 237 #[.int .u8 c] w fun e w' => e = .returned .nilFunc /\ w = w' := by
 have k98 : (c == 98) = false := by simp; omega
 have k116 : (c == 116) = false := by simp; omega
 go_enter func237, ntmps237
 go_wp2
 go_ret
 exact ⟨rfl, rfl⟩
theorem st5 (G : Nat) (L : Nat) (d c : Value) (s : ByteArray) (p : Nat) (ch : Int) (a : Addr) (w : World) (hL : Lx w L d c s p) (hs : qAb s) (hb : qAe s p ch) (hc : qDm ch = false) (hb' : qAe s (p + 1) 61) (hE : Eof w a) (hL0 : ¬ L = 0)
 (hf : ∀ w, Calls prog 237 #[.int .u8 ch] w fun e w' => e = .returned (fv G) /\ w = w') :
 Calls prog 230 #[.pointer (some ⟨L, 0, none⟩)] w fun e w' => e = .returned (.tuple #[fv G, .nilIface]) /\ Lx w' L d c s (p + 2) /\ Fr (fun k => k = L) w w' := by
 have HF := hid hf
 clear hf
 go_enter func230, ntmps230
 go_wp2_with (go_at_call 119; (with_reducible refine (qAp 237 G L d c s p ch a _ hL hs hb hc hb' hE hL0 qKm HF.out).mono ?_); rintro e w1 ⟨rfl, hx1, hf1⟩)
 go_ret2
 exact ⟨rfl, hx1, hf1⟩
theorem st5_no (L : Nat) (d c : Value) (s : ByteArray) (p : Nat) (ch : Int) (a : Addr) (w : World) (hL : Lx w L d c s p) (hs : qAb s) (hb : qAe s p ch) (hc : qDm ch = false) (hb' : qAe s (p + 1) 61) (hE : Eof w a) (hL0 : ¬ L = 0) (h : ch <= 96) :
 Calls prog 230 #[.pointer (some ⟨L, 0, none⟩)] w fun e w' => (∃ v, e = .returned (.tuple #[.nilFunc, .iface 250 v])) /\ Fr (fun k => k = L) w w' := by
 go_enter func230, ntmps230
 go_wp2_with (go_at_call 119; (with_reducible refine (qAi 237 L d c s p ch a _ hL hs hb hc hb' hE hL0 qKm (fun w => clo5_no ch w h)).mono ?_); rintro e w1 ⟨⟨v, rfl⟩, hf1⟩)
 go_ret2
 exact ⟨⟨v, rfl⟩, hf1⟩
theorem st5_end (L : Nat) (d c : Value) (s : ByteArray) (a : Addr) (w : World) (hL : Lx w L d c s s.size) (hs : qAb s) (hE : Eof w a) (hL0 : ¬ L = 0) :
 Calls prog 230 #[.pointer (some ⟨L, 0, none⟩)] w fun e w' => e = .returned (.tuple #[.nilFunc, .nilIface]) /\ Lx w' L d c s s.size /\ Fr (fun k => k = L) w w' := by
 go_enter func230, ntmps230
 go_wp2_with (go_at_call 119; (with_reducible refine (qAh 237 L d c s a _ hL hs hE hL0).mono ?_); rintro e w1 ⟨rfl, hx1, hf1⟩)
 go_ret2
 exact ⟨rfl, hx1, hf1⟩
theorem qOk : qAw 227 := fun _ _ => by kernel_rfl
theorem qKn : qAw 235 := fun _ _ => by kernel_rfl
theorem clo6_112 (w : World) : Calls prog 235 #[.int .u8 112] w fun e w' => e = .returned (fv 220) /\ w = w' := by
 go_enter func235, ntmps235
 go_wp2
 go_ret
 exact ⟨rfl, rfl⟩
theorem clo6_99 (w : World) : Calls prog 235 #[.int .u8 99] w fun e w' => e = .returned (fv 221) /\ w = w' := by
 go_enter func235, ntmps235
 go_wp2
 go_ret
 exact ⟨rfl, rfl⟩
theorem clo6_98 (w : World) : Calls prog 235 #[.int .u8 98] w fun e w' => e = .returned (fv 222) /\ w = w' := by
 go_enter func235, ntmps235
 go_wp2
 go_ret
 exact ⟨rfl, rfl⟩
theorem clo6_116 (w : World) : Calls prog 235 #[.int .u8 116] w fun e w' => e = .returned (fv 223) /\ w = w' := by
 go_enter func235, ntmps235
 go_wp2
 go_ret
 exact ⟨rfl, rfl⟩
theorem clo6_no (c : Int) (w : World) (h : c <= 96) : Calls prog 235 #[.int .u8 c] w fun e w' => e = .returned .nilFunc /\ w = w' := by
 have k112 : (c == 112) = false := by simp; omega
 have k99 : (c == 99) = false := by simp; omega
 have k98 : (c == 98) = false := by simp; omega
 have k116 : (c == 116) = false := by simp; omega
 go_enter func235, ntmps235
 go_wp2
 go_ret
 exact ⟨rfl, rfl⟩
theorem st6 (G : Nat) (L : Nat) (d c : Value) (s : ByteArray) (p : Nat) (ch : Int) (a : Addr) (w : World) (hL : Lx w L d c s p) (hs : qAb s) (hb : qAe s p ch) (hc : qDm ch = false) (hb' : qAe s (p + 1) 61) (hE : Eof w a) (hL0 : ¬ L = 0)
 (hf : ∀ w, Calls prog 235 #[.int .u8 ch] w fun e w' => e = .returned (fv G) /\ w = w') :
 Calls prog 227 #[.pointer (some ⟨L, 0, none⟩)] w fun e w' => e = .returned (.tuple #[fv G, .nilIface]) /\ Lx w' L d c s (p + 2) /\ Fr (fun k => k = L) w w' := by
 have HF := hid hf
 clear hf
 go_enter func227, ntmps227
 go_wp2_with (go_at_call 119; (with_reducible refine (qAp 235 G L d c s p ch a _ hL hs hb hc hb' hE hL0 qKn HF.out).mono ?_); rintro e w1 ⟨rfl, hx1, hf1⟩)
 go_ret2
 exact ⟨rfl, hx1, hf1⟩
theorem st6_no (L : Nat) (d c : Value) (s : ByteArray) (p : Nat) (ch : Int) (a : Addr) (w : World) (hL : Lx w L d c s p) (hs : qAb s) (hb : qAe s p ch) (hc : qDm ch = false) (hb' : qAe s (p + 1) 61) (hE : Eof w a) (hL0 : ¬ L = 0) (h : ch <= 96) :
 Calls prog 227 #[.pointer (some ⟨L, 0, none⟩)] w fun e w' => (∃ v, e = .returned (.tuple #[.nilFunc, .iface 250 v])) /\ Fr (fun k => k = L) w w' := by
 go_enter func227, ntmps227
 go_wp2_with (go_at_call 119; (with_reducible refine (qAi 235 L d c s p ch a _ hL hs hb hc hb' hE hL0 qKn (fun w => clo6_no ch w h)).mono ?_); rintro e w1 ⟨⟨v, rfl⟩, hf1⟩)
 go_ret2
 exact ⟨⟨v, rfl⟩, hf1⟩
theorem st6_end (L : Nat) (d c : Value) (s : ByteArray) (a : Addr) (w : World) (hL : Lx w L d c s s.size) (hs : qAb s) (hE : Eof w a) (hL0 : ¬ L = 0) :
 Calls prog 227 #[.pointer (some ⟨L, 0, none⟩)] w fun e w' => e = .returned (.tuple #[.nilFunc, .nilIface]) /\ Lx w' L d c s s.size /\ Fr (fun k => k = L) w w' := by
 go_enter func227, ntmps227
 go_wp2_with (go_at_call 119; (with_reducible refine (qAh 235 L d c s a _ hL hs hE hL0).mono ?_); rintro e w1 ⟨rfl, hx1, hf1⟩)
 go_ret2
 exact ⟨rfl, hx1, hf1⟩
theorem qOl : qAw 224 := fun _ _ => by kernel_rfl
theorem qKo : qAw 233 := fun _ _ => by kernel_rfl
theorem clo7_117 (w : World) : Calls prog 233 #[.int .u8 117] w fun e w' => e = .returned (fv 218) /\ w = w' := by
 go_enter func233, ntmps233
 go_wp2
 go_ret
 exact ⟨rfl, rfl⟩
theorem clo7_101 (w : World) : Calls prog 233 #[.int .u8 101] w fun e w' => e = .returned (fv 219) /\ w = w' := by
 go_enter func233, ntmps233
 go_wp2
 go_ret
 exact ⟨rfl, rfl⟩
theorem clo7_112 (w : World) : Calls prog 233 #[.int .u8 112] w fun e w' => e = .returned (fv 220) /\ w = w' := by
 go_enter func233, ntmps233
 go_wp2
 go_ret
 exact ⟨rfl, rfl⟩
theorem clo7_99 (w : World) : Calls prog 233 #[.int .u8 99] w fun e w' => e = .returned (fv 221) /\ w = w' := by
 go_enter func233, ntmps233
 go_wp2
 go_ret
 exact ⟨rfl, rfl⟩
theorem clo7_98 (w : World) : Calls prog 233 #[.int .u8 98] w fun e w' => e = .returned (fv 222) /\ w = w' := by
 go_enter func233, ntmps233
 go_wp2
 go_ret
 exact ⟨rfl, rfl⟩
theorem clo7_116 (w : World) : Calls prog 233 #[.int .u8 116] w fun e w' => e = .returned (fv 223) /\ w = w' := by
 go_enter func233, ntmps233
 go_wp2
 go_ret
 exact ⟨rfl, rfl⟩
theorem clo7_no (c : Int) (w : World) (h : c <= 96) : Calls prog 233 #[.int .u8 c] w fun e w' => e = .returned .nilFunc /\ w = w' := by
 have k117 : (c == 117) = false := by simp; omega
 have k101 : (c == 101) = false := by simp; omega
 have k112 : (c == 112) = false := by simp; omega
 have k99 : (c == 99) = false := by simp; omega
 have k98 : (c == 98) = false := by simp; omega
 have k116 : (c == 116) = false := by simp; omega
 go_enter func233, ntmps233
 go_wp2
 go_ret
 exact ⟨rfl, rfl⟩
theorem st7 (G : Nat) (L : Nat) (d c : Value) (s : ByteArray) (p : Nat) (ch : Int) (a : Addr) (w : World) (hL : Lx w L d c s p) (hs : qAb s) (hb : qAe s p ch) (hc : qDm ch = false) (hb' : qAe s (p + 1) 61) (hE : Eof w a) (hL0 : ¬ L = 0)
 (hf : ∀ w, Calls prog 233 #[.int .u8 ch] w fun e w' => e = .returned (fv G) /\ w = w') :
 Calls prog 224 #[.pointer (some ⟨L, 0, none⟩)] w fun e w' => e = .returned (.tuple #[fv G, .nilIface]) /\ Lx w' L d c s (p + 2) /\ Fr (fun k => k = L) w w' := by
 have HF := hid hf
 clear hf
 go_enter func224, ntmps224
 go_wp2_with (go_at_call 119; (with_reducible refine (qAp 233 G L d c s p ch a _ hL hs hb hc hb' hE hL0 qKo HF.out).mono ?_); rintro e w1 ⟨rfl, hx1, hf1⟩)
 go_ret2
 exact ⟨rfl, hx1, hf1⟩
theorem st7_no (L : Nat) (d c : Value) (s : ByteArray) (p : Nat) (ch : Int) (a : Addr) (w : World) (hL : Lx w L d c s p) (hs : qAb s) (hb : qAe s p ch) (hc : qDm ch = false) (hb' : qAe s (p + 1) 61) (hE : Eof w a) (hL0 : ¬ L = 0) (h : ch <= 96) :
 Calls prog 224 #[.pointer (some ⟨L, 0, none⟩)] w fun e w' => (∃ v, e = .returned (.tuple #[.nilFunc, .iface 250 v])) /\ Fr (fun k => k = L) w w' := by
 go_enter func224, ntmps224
 go_wp2_with (go_at_call 119; (with_reducible refine (qAi 233 L d c s p ch a _ hL hs hb hc hb' hE hL0 qKo (fun w => clo7_no ch w h)).mono ?_); rintro e w1 ⟨⟨v, rfl⟩, hf1⟩)
 go_ret2
 exact ⟨⟨v, rfl⟩, hf1⟩
theorem st7_end (L : Nat) (d c : Value) (s : ByteArray) (a : Addr) (w : World) (hL : Lx w L d c s s.size) (hs : qAb s) (hE : Eof w a) (hL0 : ¬ L = 0) :
 Calls prog 224 #[.pointer (some ⟨L, 0, none⟩)] w fun e w' => e = .returned (.tuple #[.nilFunc, .nilIface]) /\ Lx w' L d c s s.size /\ Fr (fun k => k = L) w w' := by
 go_enter func224, ntmps224
 go_wp2_with (go_at_call 119; (with_reducible refine (qAh 233 L d c s a _ hL hs hE hL0).mono ?_); rintro e w1 ⟨rfl, hx1, hf1⟩)
 go_ret2
 exact ⟨rfl, hx1, hf1⟩
theorem qOm : qAw 228 := fun _ _ => by kernel_rfl
theorem qKp : qAw 236 := fun _ _ => by kernel_rfl
theorem clo8_99 (w : World) : Calls prog 236 #[.int .u8 99] w fun e w' => e = .returned (fv 221) /\ w = w' := by
 go_enter func236, ntmps236
 go_wp2
 go_ret
 exact ⟨rfl, rfl⟩
theorem clo8_98 (w : World) : Calls prog 236 #[.int .u8 98] w fun e w' => e = .returned (fv 222) /\ w = w' := by
 go_enter func236, ntmps236
 go_wp2
 go_ret
 exact ⟨rfl, rfl⟩
theorem clo8_116 (w : World) : Calls prog 236 #[.int .u8 116] w fun e w' => e = .returned (fv 223) /\ w = w' := by
 go_enter func236, ntmps236
 go_wp2
 go_ret
 exact ⟨rfl, rfl⟩
theorem clo8_no (c : Int) (w : World) (h : c <= 96) : Calls prog 236 #[.int .u8 c] w fun e w' => e = .returned .nilFunc /\ w = w' := by
 have k99 : (c == 99) = false := by simp; omega
 have k98 : (c == 98) = false := by simp; omega
 have k116 : (c == 116) = false := by simp; omega
 go_enter func236, ntmps236
 go_wp2
 go_ret
 exact ⟨rfl, rfl⟩
theorem st8 (G : Nat) (L : Nat) (d c : Value) (s : ByteArray) (p : Nat) (ch : Int) (a : Addr) (w : World) (hL : Lx w L d c s p) (hs : qAb s) (hb : qAe s p ch) (hc : qDm ch = false) (hb' : qAe s (p + 1) 61) (hE : Eof w a) (hL0 : ¬ L = 0)
 (hf : ∀ w, Calls prog 236 #[.int .u8 ch] w fun e w' => e = .returned (fv G) /\ w = w') :
 Calls prog 228 #[.pointer (some ⟨L, 0, none⟩)] w fun e w' => e = .returned (.tuple #[fv G, .nilIface]) /\ Lx w' L d c s (p + 2) /\ Fr (fun k => k = L) w w' := by
 have HF := hid hf
 clear hf
 go_enter func228, ntmps228
 go_wp2_with (go_at_call 119; (with_reducible refine (qAp 236 G L d c s p ch a _ hL hs hb hc hb' hE hL0 qKp HF.out).mono ?_); rintro e w1 ⟨rfl, hx1, hf1⟩)
 go_ret2
 exact ⟨rfl, hx1, hf1⟩
theorem st8_no (L : Nat) (d c : Value) (s : ByteArray) (p : Nat) (ch : Int) (a : Addr) (w : World) (hL : Lx w L d c s p) (hs : qAb s) (hb : qAe s p ch) (hc : qDm ch = false) (hb' : qAe s (p + 1) 61) (hE : Eof w a) (hL0 : ¬ L = 0) (h : ch <= 96) :
 Calls prog 228 #[.pointer (some ⟨L, 0, none⟩)] w fun e w' => (∃ v, e = .returned (.tuple #[.nilFunc, .iface 250 v])) /\ Fr (fun k => k = L) w w' := by
 go_enter func228, ntmps228
 go_wp2_with (go_at_call 119; (with_reducible refine (qAi 236 L d c s p ch a _ hL hs hb hc hb' hE hL0 qKp (fun w => clo8_no ch w h)).mono ?_); rintro e w1 ⟨⟨v, rfl⟩, hf1⟩)
 go_ret2
 exact ⟨⟨v, rfl⟩, hf1⟩
theorem st8_end (L : Nat) (d c : Value) (s : ByteArray) (a : Addr) (w : World) (hL : Lx w L d c s s.size) (hs : qAb s) (hE : Eof w a) (hL0 : ¬ L = 0) :
 Calls prog 228 #[.pointer (some ⟨L, 0, none⟩)] w fun e w' => e = .returned (.tuple #[.nilFunc, .nilIface]) /\ Lx w' L d c s s.size /\ Fr (fun k => k = L) w w' := by
 go_enter func228, ntmps228
 go_wp2_with (go_at_call 119; (with_reducible refine (qAh 236 L d c s a _ hL hs hE hL0).mono ?_); rintro e w1 ⟨rfl, hx1, hf1⟩)
 go_ret2
 exact ⟨rfl, hx1, hf1⟩
theorem qOn : qAw 232 := fun _ _ => by kernel_rfl
theorem qKq : qAw 241 := fun _ _ => by kernel_rfl
theorem clo9_116 (w : World) : Calls prog 241 #[.int .u8 116] w fun e w' => e = .returned (fv 223) /\ w = w' := by
 go_enter func241, ntmps241
 go_wp2
 go_ret
 exact ⟨rfl, rfl⟩
theorem clo9_114 (w : World) : Calls prog 241 #[.int .u8 114] w fun e w' => e = .returned (fv 245) /\ w = w' := by
 go_enter func241, ntmps241
 go_wp2
 go_ret
 exact ⟨rfl, rfl⟩
theorem clo9_122 (w : World) : Calls prog 241 #[.int .u8 122] w fun e w' => e = .returned (fv 242) /\ w = w' := by
 go_enter func241, ntmps241
 go_wp2
 go_ret
 exact ⟨rfl, rfl⟩
theorem clo9_107 (w : World) : Calls prog 241 #[.int .u8 107] w fun e w' => e = .returned (fv 243) /\ w = w' := by
 go_enter func241, ntmps241
 go_wp2
 go_ret
 exact ⟨rfl, rfl⟩
theorem clo9_97 (w : World) : Calls prog 241 #[.int .u8 97] w fun e w' => e = .returned (fv 244) /\ w = w' := by
 go_enter func241, ntmps241
 go_wp2
 go_ret
 exact ⟨rfl, rfl⟩
theorem clo9_109 (w : World) : Calls prog 241 #[.int .u8 109] w fun e w' => e = .returned (fv 246) /\ w = w' := by
 go_enter func241, ntmps241
 go_wp2
 go_ret
 exact ⟨rfl, rfl⟩
theorem clo9_no (c : Int) (w : World) (h : c <= 96) : Calls prog 241 #[.int .u8 c] w fun e w' => e = .returned .nilFunc /\ w = w' := by
 have k116 : (c == 116) = false := by simp; omega
 have k114 : (c == 114) = false := by simp; omega
 have k122 : (c == 122) = false := by simp; omega
 have k107 : (c == 107) = false := by simp; omega
 have k97 : (c == 97) = false := by simp; omega
 have k109 : (c == 109) = false := by simp; omega
 go_enter func241, ntmps241
 go_wp2
 go_ret
 exact ⟨rfl, rfl⟩
theorem st9 (G : Nat) (L : Nat) (d c : Value) (s : ByteArray) (p : Nat) (ch : Int) (a : Addr) (w : World) (hL : Lx w L d c s p) (hs : qAb s) (hb : qAe s p ch) (hc : qDm ch = false) (hb' : qAe s (p + 1) 61) (hE : Eof w a) (hL0 : ¬ L = 0)
 (hf : ∀ w, Calls prog 241 #[.int .u8 ch] w fun e w' => e = .returned (fv G) /\ w = w') :
 Calls prog 232 #[.pointer (some ⟨L, 0, none⟩)] w fun e w' => e = .returned (.tuple #[fv G, .nilIface]) /\ Lx w' L d c s (p + 2) /\ Fr (fun k => k = L) w w' := by
 have HF := hid hf
 clear hf
 go_enter func232, ntmps232
 go_wp2_with (go_at_call 119; (with_reducible refine (qAp 241 G L d c s p ch a _ hL hs hb hc hb' hE hL0 qKq HF.out).mono ?_); rintro e w1 ⟨rfl, hx1, hf1⟩)
 go_ret2
 exact ⟨rfl, hx1, hf1⟩
theorem st9_no (L : Nat) (d c : Value) (s : ByteArray) (p : Nat) (ch : Int) (a : Addr) (w : World) (hL : Lx w L d c s p) (hs : qAb s) (hb : qAe s p ch) (hc : qDm ch = false) (hb' : qAe s (p + 1) 61) (hE : Eof w a) (hL0 : ¬ L = 0) (h : ch <= 96) :
 Calls prog 232 #[.pointer (some ⟨L, 0, none⟩)] w fun e w' => (∃ v, e = .returned (.tuple #[.nilFunc, .iface 250 v])) /\ Fr (fun k => k = L) w w' := by
 go_enter func232, ntmps232
 go_wp2_with (go_at_call 119; (with_reducible refine (qAi 241 L d c s p ch a _ hL hs hb hc hb' hE hL0 qKq (fun w => clo9_no ch w h)).mono ?_); rintro e w1 ⟨⟨v, rfl⟩, hf1⟩)
 go_ret2
 exact ⟨⟨v, rfl⟩, hf1⟩
theorem st9_end (L : Nat) (d c : Value) (s : ByteArray) (a : Addr) (w : World) (hL : Lx w L d c s s.size) (hs : qAb s) (hE : Eof w a) (hL0 : ¬ L = 0) :
 Calls prog 232 #[.pointer (some ⟨L, 0, none⟩)] w fun e w' => e = .returned (.tuple #[.nilFunc, .nilIface]) /\ Lx w' L d c s s.size /\ Fr (fun k => k = L) w w' := by
 go_enter func232, ntmps232
 go_wp2_with (go_at_call 119; (with_reducible refine (qAh 241 L d c s a _ hL hs hE hL0).mono ?_); rintro e w1 ⟨rfl, hx1, hf1⟩)
 go_ret2
 exact ⟨rfl, hx1, hf1⟩
theorem qOo : qAw 226 := fun _ _ => by kernel_rfl
theorem qKr : qAw 234 := fun _ _ => by kernel_rfl
theorem qOp (w : World) : Calls prog 234 #[.int .u8 101] w fun e w' => e = .returned (fv 219) /\ w = w' := by
 go_enter func234, ntmps234
 go_wp2
 go_ret
 exact ⟨rfl, rfl⟩
theorem qOq (w : World) : Calls prog 234 #[.int .u8 112] w fun e w' => e = .returned (fv 220) /\ w = w' := by
 go_enter func234, ntmps234
 go_wp2
 go_ret
 exact ⟨rfl, rfl⟩
theorem clo10_99 (w : World) : Calls prog 234 #[.int .u8 99] w fun e w' => e = .returned (fv 221) /\ w = w' := by
 go_enter func234, ntmps234
 go_wp2
 go_ret
 exact ⟨rfl, rfl⟩
theorem clo10_98 (w : World) : Calls prog 234 #[.int .u8 98] w fun e w' => e = .returned (fv 222) /\ w = w' := by
 go_enter func234, ntmps234
 go_wp2
 go_ret
 exact ⟨rfl, rfl⟩
theorem qOr (w : World) : Calls prog 234 #[.int .u8 116] w fun e w' => e = .returned (fv 223) /\ w = w' := by
 go_enter func234, ntmps234
 go_wp2
 go_ret
 exact ⟨rfl, rfl⟩
theorem clo10_no (c : Int) (w : World) (h : c <= 96) : Calls prog 234 #[.int .u8 c] w fun e w' => e = .returned .nilFunc /\ w = w' := by
 have k101 : (c == 101) = false := by simp; omega
 have k112 : (c == 112) = false := by simp; omega
 have k99 : (c == 99) = false := by simp; omega
 have k98 : (c == 98) = false := by simp; omega
 have k116 : (c == 116) = false := by simp; omega
 go_enter func234, ntmps234
 go_wp2
 go_ret
 exact ⟨rfl, rfl⟩
theorem st10 (G : Nat) (L : Nat) (d c : Value) (s : ByteArray) (p : Nat) (ch : Int) (a : Addr) (w : World) (hL : Lx w L d c s p) (hs : qAb s) (hb : qAe s p ch) (hc : qDm ch = false) (hb' : qAe s (p + 1) 61) (hE : Eof w a) (hL0 : ¬ L = 0)
 (hf : ∀ w, Calls prog 234 #[.int .u8 ch] w fun e w' => e = .returned (fv G) /\ w = w') :
 Calls prog 226 #[.pointer (some ⟨L, 0, none⟩)] w fun e w' => e = .returned (.tuple #[fv G, .nilIface]) /\ Lx w' L d c s (p + 2) /\ Fr (fun k => k = L) w w' := by
 have HF := hid hf
 clear hf
 go_enter func226, ntmps226
 go_wp2_with (go_at_call 119; (with_reducible refine (qAp 234 G L d c s p ch a _ hL hs hb hc hb' hE hL0 qKr HF.out).mono ?_); rintro e w1 ⟨rfl, hx1, hf1⟩)
 go_ret2
 exact ⟨rfl, hx1, hf1⟩
theorem st10_no (L : Nat) (d c : Value) (s : ByteArray) (p : Nat) (ch : Int) (a : Addr) (w : World) (hL : Lx w L d c s p) (hs : qAb s) (hb : qAe s p ch) (hc : qDm ch = false) (hb' : qAe s (p + 1) 61) (hE : Eof w a) (hL0 : ¬ L = 0) (h : ch <= 96) :
 Calls prog 226 #[.pointer (some ⟨L, 0, none⟩)] w fun e w' => (∃ v, e = .returned (.tuple #[.nilFunc, .iface 250 v])) /\ Fr (fun k => k = L) w w' := by
 go_enter func226, ntmps226
 go_wp2_with (go_at_call 119; (with_reducible refine (qAi 234 L d c s p ch a _ hL hs hb hc hb' hE hL0 qKr (fun w => clo10_no ch w h)).mono ?_); rintro e w1 ⟨⟨v, rfl⟩, hf1⟩)
 go_ret2
 exact ⟨⟨v, rfl⟩, hf1⟩
theorem st10_end (L : Nat) (d c : Value) (s : ByteArray) (a : Addr) (w : World) (hL : Lx w L d c s s.size) (hs : qAb s) (hE : Eof w a) (hL0 : ¬ L = 0) :
 Calls prog 226 #[.pointer (some ⟨L, 0, none⟩)] w fun e w' => e = .returned (.tuple #[.nilFunc, .nilIface]) /\ Lx w' L d c s s.size /\ Fr (fun k => k = L) w w' := by
 go_enter func226, ntmps226
 go_wp2_with (go_at_call 119; (with_reducible refine (qAh 234 L d c s a _ hL hs hE hL0).mono ?_); rintro e w1 ⟨rfl, hx1, hf1⟩)
 go_ret2
 exact ⟨rfl, hx1, hf1⟩
theorem qOs : qAw 253 := fun _ _ => by kernel_rfl
theorem qKs : qAw 268 := fun _ _ => by kernel_rfl
theorem clo11_97 (w : World) : Calls prog 268 #[.int .u8 97] w fun e w' => e = .returned (fv 244) /\ w = w' := by
 go_enter func268, ntmps268
 go_wp2
 go_ret
 exact ⟨rfl, rfl⟩
theorem qOt (w : World) : Calls prog 268 #[.int .u8 109] w fun e w' => e = .returned (fv 246) /\ w = w' := by
 go_enter func268, ntmps268
 go_wp2
 go_ret
 exact ⟨rfl, rfl⟩
theorem clo11_no (c : Int) (w : World) (h : c <= 96) : Calls prog 268 #[.int .u8 c] w fun e w' => e = .returned .nilFunc /\ w = w' := by
 have k97 : (c == 97) = false := by simp; omega
 have k109 : (c == 109) = false := by simp; omega
 go_enter func268, ntmps268
 go_wp2
 go_ret
 exact ⟨rfl, rfl⟩
theorem st11 (G : Nat) (L : Nat) (d c : Value) (s : ByteArray) (p : Nat) (ch : Int) (a : Addr) (w : World) (hL : Lx w L d c s p) (hs : qAb s) (hb : qAe s p ch) (hc : qDm ch = false) (hb' : qAe s (p + 1) 61) (hE : Eof w a) (hL0 : ¬ L = 0)
 (hf : ∀ w, Calls prog 268 #[.int .u8 ch] w fun e w' => e = .returned (fv G) /\ w = w') :
 Calls prog 253 #[.pointer (some ⟨L, 0, none⟩)] w fun e w' => e = .returned (.tuple #[fv G, .nilIface]) /\ Lx w' L d c s (p + 2) /\ Fr (fun k => k = L) w w' := by
 have HF := hid hf
 clear hf
 go_enter func253, ntmps253
 go_wp2_with (go_at_call 119; (with_reducible refine (qAp 268 G L d c s p ch a _ hL hs hb hc hb' hE hL0 qKs HF.out).mono ?_); rintro e w1 ⟨rfl, hx1, hf1⟩)
 go_ret2
 exact ⟨rfl, hx1, hf1⟩
theorem st11_no (L : Nat) (d c : Value) (s : ByteArray) (p : Nat) (ch : Int) (a : Addr) (w : World) (hL : Lx w L d c s p) (hs : qAb s) (hb : qAe s p ch) (hc : qDm ch = false) (hb' : qAe s (p + 1) 61) (hE : Eof w a) (hL0 : ¬ L = 0) (h : ch <= 96) :
 Calls prog 253 #[.pointer (some ⟨L, 0, none⟩)] w fun e w' => (∃ v, e = .returned (.tuple #[.nilFunc, .iface 250 v])) /\ Fr (fun k => k = L) w w' := by
 go_enter func253, ntmps253
 go_wp2_with (go_at_call 119; (with_reducible refine (qAi 268 L d c s p ch a _ hL hs hb hc hb' hE hL0 qKs (fun w => clo11_no ch w h)).mono ?_); rintro e w1 ⟨⟨v, rfl⟩, hf1⟩)
 go_ret2
 exact ⟨⟨v, rfl⟩, hf1⟩
theorem st11_end (L : Nat) (d c : Value) (s : ByteArray) (a : Addr) (w : World) (hL : Lx w L d c s s.size) (hs : qAb s) (hE : Eof w a) (hL0 : ¬ L = 0) :
 Calls prog 253 #[.pointer (some ⟨L, 0, none⟩)] w fun e w' => e = .returned (.tuple #[.nilFunc, .nilIface]) /\ Lx w' L d c s s.size /\ Fr (fun k => k = L) w w' := by
 go_enter func253, ntmps253
 go_wp2_with (go_at_call 119; (with_reducible refine (qAh 268 L d c s a _ hL hs hE hL0).mono ?_); rintro e w1 ⟨rfl, hx1, hf1⟩)
 go_ret2
 exact ⟨rfl, hx1, hf1⟩
theorem qOu : qAw 258 := fun _ _ => by kernel_rfl
theorem qKt : qAw 270 := fun _ _ => by kernel_rfl
theorem qOv (w : World) : Calls prog 270 #[.int .u8 109] w fun e w' => e = .returned (fv 246) /\ w = w' := by
 go_enter func270, ntmps270
 go_wp2
 go_ret
 exact ⟨rfl, rfl⟩
theorem qOw (w : World) : Calls prog 270 #[.int .u8 105] w fun e w' => e = .returned (fv 275) /\ w = w' := by
 go_enter func270, ntmps270
 go_wp2
 go_ret
 exact ⟨rfl, rfl⟩
theorem clo12_99 (w : World) : Calls prog 270 #[.int .u8 99] w fun e w' => e = .returned (fv 274) /\ w = w' := by
 go_enter func270, ntmps270
 go_wp2
 go_ret
 exact ⟨rfl, rfl⟩
theorem clo12_98 (w : World) : Calls prog 270 #[.int .u8 98] w fun e w' => e = .returned (fv 273) /\ w = w' := by
 go_enter func270, ntmps270
 go_wp2
 go_ret
 exact ⟨rfl, rfl⟩
theorem qOx (w : World) : Calls prog 270 #[.int .u8 107] w fun e w' => e = .returned (fv 272) /\ w = w' := by
 go_enter func270, ntmps270
 go_wp2
 go_ret
 exact ⟨rfl, rfl⟩
theorem clo12_97 (w : World) : Calls prog 270 #[.int .u8 97] w fun e w' => e = .returned (fv 271) /\ w = w' := by
 go_enter func270, ntmps270
 go_wp2
 go_ret
 exact ⟨rfl, rfl⟩
theorem clo12_no (c : Int) (w : World) (h : c <= 96) : Calls prog 270 #[.int .u8 c] w fun e w' => e = .returned .nilFunc /\ w = w' := by
 have k109 : (c == 109) = false := by simp; omega
 have k105 : (c == 105) = false := by simp; omega
 have k99 : (c == 99) = false := by simp; omega
 have k98 : (c == 98) = false := by simp; omega
 have k107 : (c == 107) = false := by simp; omega
 have k97 : (c == 97) = false := by simp; omega
 go_enter func270, ntmps270
 go_wp2
 go_ret
 exact ⟨rfl, rfl⟩
theorem st12 (G : Nat) (L : Nat) (d c : Value) (s : ByteArray) (p : Nat) (ch : Int) (a : Addr) (w : World) (hL : Lx w L d c s p) (hs : qAb s) (hb : qAe s p ch) (hc : qDm ch = false) (hb' : qAe s (p + 1) 61) (hE : Eof w a) (hL0 : ¬ L = 0)
 (hf : ∀ w, Calls prog 270 #[.int .u8 ch] w fun e w' => e = .returned (fv G) /\ w = w') :
 Calls prog 258 #[.pointer (some ⟨L, 0, none⟩)] w fun e w' => e = .returned (.tuple #[fv G, .nilIface]) /\ Lx w' L d c s (p + 2) /\ Fr (fun k => k = L) w w' := by
 have HF := hid hf
 clear hf
 go_enter func258, ntmps258
 go_wp2_with (go_at_call 119; (with_reducible refine (qAp 270 G L d c s p ch a _ hL hs hb hc hb' hE hL0 qKt HF.out).mono ?_); rintro e w1 ⟨rfl, hx1, hf1⟩)
 go_ret2
 exact ⟨rfl, hx1, hf1⟩
theorem st12_no (L : Nat) (d c : Value) (s : ByteArray) (p : Nat) (ch : Int) (a : Addr) (w : World) (hL : Lx w L d c s p) (hs : qAb s) (hb : qAe s p ch) (hc : qDm ch = false) (hb' : qAe s (p + 1) 61) (hE : Eof w a) (hL0 : ¬ L = 0) (h : ch <= 96) :
 Calls prog 258 #[.pointer (some ⟨L, 0, none⟩)] w fun e w' => (∃ v, e = .returned (.tuple #[.nilFunc, .iface 250 v])) /\ Fr (fun k => k = L) w w' := by
 go_enter func258, ntmps258
 go_wp2_with (go_at_call 119; (with_reducible refine (qAi 270 L d c s p ch a _ hL hs hb hc hb' hE hL0 qKt (fun w => clo12_no ch w h)).mono ?_); rintro e w1 ⟨⟨v, rfl⟩, hf1⟩)
 go_ret2
 exact ⟨⟨v, rfl⟩, hf1⟩
theorem st12_end (L : Nat) (d c : Value) (s : ByteArray) (a : Addr) (w : World) (hL : Lx w L d c s s.size) (hs : qAb s) (hE : Eof w a) (hL0 : ¬ L = 0) :
 Calls prog 258 #[.pointer (some ⟨L, 0, none⟩)] w fun e w' => e = .returned (.tuple #[.nilFunc, .nilIface]) /\ Lx w' L d c s s.size /\ Fr (fun k => k = L) w w' := by
 go_enter func258, ntmps258
 go_wp2_with (go_at_call 119; (with_reducible refine (qAh 270 L d c s a _ hL hs hE hL0).mono ?_); rintro e w1 ⟨rfl, hx1, hf1⟩)
 go_ret2
 exact ⟨rfl, hx1, hf1⟩
theorem qOy : qAw 252 := fun _ _ => by kernel_rfl
theorem qKu : qAw 267 := fun _ _ => by kernel_rfl
theorem qOz (w : World) : Calls prog 267 #[.int .u8 107] w fun e w' => e = .returned (fv 243) /\ w = w' := by
 go_enter func267, ntmps267
 go_wp2
 go_ret
 exact ⟨rfl, rfl⟩
theorem clo13_97 (w : World) : Calls prog 267 #[.int .u8 97] w fun e w' => e = .returned (fv 244) /\ w = w' := by
 go_enter func267, ntmps267
 go_wp2
 go_ret
 exact ⟨rfl, rfl⟩
theorem qO0 (w : World) : Calls prog 267 #[.int .u8 109] w fun e w' => e = .returned (fv 246) /\ w = w' := by
 go_enter func267, ntmps267
 go_wp2
 go_ret
 exact ⟨rfl, rfl⟩
theorem clo13_no (c : Int) (w : World) (h : c <= 96) : Calls prog 267 #[.int .u8 c] w fun e w' => e = .returned .nilFunc /\ w = w' := by
 have k107 : (c == 107) = false := by simp; omega
 have k97 : (c == 97) = false := by simp; omega
 have k109 : (c == 109) = false := by simp; omega
 go_enter func267, ntmps267
 go_wp2
 go_ret
 exact ⟨rfl, rfl⟩
theorem st13 (G : Nat) (L : Nat) (d c : Value) (s : ByteArray) (p : Nat) (ch : Int) (a : Addr) (w : World) (hL : Lx w L d c s p) (hs : qAb s) (hb : qAe s p ch) (hc : qDm ch = false) (hb' : qAe s (p + 1) 61) (hE : Eof w a) (hL0 : ¬ L = 0)
 (hf : ∀ w, Calls prog 267 #[.int .u8 ch] w fun e w' => e = .returned (fv G) /\ w = w') :
 Calls prog 252 #[.pointer (some ⟨L, 0, none⟩)] w fun e w' => e = .returned (.tuple #[fv G, .nilIface]) /\ Lx w' L d c s (p + 2) /\ Fr (fun k => k = L) w w' := by
 have HF := hid hf
 clear hf
 go_enter func252, ntmps252
 go_wp2_with (go_at_call 119; (with_reducible refine (qAp 267 G L d c s p ch a _ hL hs hb hc hb' hE hL0 qKu HF.out).mono ?_); rintro e w1 ⟨rfl, hx1, hf1⟩)
 go_ret2
 exact ⟨rfl, hx1, hf1⟩
theorem st13_no (L : Nat) (d c : Value) (s : ByteArray) (p : Nat) (ch : Int) (a : Addr) (w : World) (hL : Lx w L d c s p) (hs : qAb s) (hb : qAe s p ch) (hc : qDm ch = false) (hb' : qAe s (p + 1) 61) (hE : Eof w a) (hL0 : ¬ L = 0) (h : ch <= 96) :
 Calls prog 252 #[.pointer (some ⟨L, 0, none⟩)] w fun e w' => (∃ v, e = .returned (.tuple #[.nilFunc, .iface 250 v])) /\ Fr (fun k => k = L) w w' := by
 go_enter func252, ntmps252
 go_wp2_with (go_at_call 119; (with_reducible refine (qAi 267 L d c s p ch a _ hL hs hb hc hb' hE hL0 qKu (fun w => clo13_no ch w h)).mono ?_); rintro e w1 ⟨⟨v, rfl⟩, hf1⟩)
 go_ret2
 exact ⟨⟨v, rfl⟩, hf1⟩
theorem st13_end (L : Nat) (d c : Value) (s : ByteArray) (a : Addr) (w : World) (hL : Lx w L d c s s.size) (hs : qAb s) (hE : Eof w a) (hL0 : ¬ L = 0) :
 Calls prog 252 #[.pointer (some ⟨L, 0, none⟩)] w fun e w' => e = .returned (.tuple #[.nilFunc, .nilIface]) /\ Lx w' L d c s s.size /\ Fr (fun k => k = L) w w' := by
 go_enter func252, ntmps252
 go_wp2_with (go_at_call 119; (with_reducible refine (qAh 267 L d c s a _ hL hs hE hL0).mono ?_); rintro e w1 ⟨rfl, hx1, hf1⟩)
 go_ret2
 exact ⟨rfl, hx1, hf1⟩
theorem qO1 : qAw 281 := fun _ _ => by kernel_rfl
theorem qKv : qAw 285 := fun _ _ => by kernel_rfl
theorem qO2 (w : World) : Calls prog 285 #[.int .u8 109] w fun e w' => e = .returned (fv 246) /\ w = w' := by
 go_enter func285, ntmps285
 go_wp2
 go_ret
 exact ⟨rfl, rfl⟩
theorem qO3 (w : World) : Calls prog 285 #[.int .u8 105] w fun e w' => e = .returned (fv 275) /\ w = w' := by
 go_enter func285, ntmps285
 go_wp2
 go_ret
 exact ⟨rfl, rfl⟩
theorem clo14_99 (w : World) : Calls prog 285 #[.int .u8 99] w fun e w' => e = .returned (fv 274) /\ w = w' := by
 go_enter func285, ntmps285
 go_wp2
 go_ret
 exact ⟨rfl, rfl⟩
theorem clo14_98 (w : World) : Calls prog 285 #[.int .u8 98] w fun e w' => e = .returned (fv 273) /\ w = w' := by
 go_enter func285, ntmps285
 go_wp2
 go_ret
 exact ⟨rfl, rfl⟩
theorem qO4 (w : World) : Calls prog 285 #[.int .u8 107] w fun e w' => e = .returned (fv 272) /\ w = w' := by
 go_enter func285, ntmps285
 go_wp2
 go_ret
 exact ⟨rfl, rfl⟩
theorem clo14_97 (w : World) : Calls prog 285 #[.int .u8 97] w fun e w' => e = .returned (fv 271) /\ w = w' := by
 go_enter func285, ntmps285
 go_wp2
 go_ret
 exact ⟨rfl, rfl⟩
theorem clo14_no (c : Int) (w : World) (h : c <= 96) : Calls prog 285 #[.int .u8 c] w fun e w' => e = .returned .nilFunc /\ w = w' := by
 have k109 : (c == 109) = false := by simp; omega
 have k105 : (c == 105) = false := by simp; omega
 have k99 : (c == 99) = false := by simp; omega
 have k98 : (c == 98) = false := by simp; omega
 have k107 : (c == 107) = false := by simp; omega
 have k97 : (c == 97) = false := by simp; omega
 go_enter func285, ntmps285
 go_wp2
 go_ret
 exact ⟨rfl, rfl⟩
theorem st14 (G : Nat) (L : Nat) (d c : Value) (s : ByteArray) (p : Nat) (ch : Int) (a : Addr) (w : World) (hL : Lx w L d c s p) (hs : qAb s) (hb : qAe s p ch) (hc : qDm ch = false) (hb' : qAe s (p + 1) 61) (hE : Eof w a) (hL0 : ¬ L = 0)
 (hf : ∀ w, Calls prog 285 #[.int .u8 ch] w fun e w' => e = .returned (fv G) /\ w = w') :
 Calls prog 281 #[.pointer (some ⟨L, 0, none⟩)] w fun e w' => e = .returned (.tuple #[fv G, .nilIface]) /\ Lx w' L d c s (p + 2) /\ Fr (fun k => k = L) w w' := by
 have HF := hid hf
 clear hf
 go_enter func281, ntmps281
 go_wp2_with (go_at_call 119; (with_reducible refine (qAp 285 G L d c s p ch a _ hL hs hb hc hb' hE hL0 qKv HF.out).mono ?_); rintro e w1 ⟨rfl, hx1, hf1⟩)
 go_ret2
 exact ⟨rfl, hx1, hf1⟩
theorem st14_no (L : Nat) (d c : Value) (s : ByteArray) (p : Nat) (ch : Int) (a : Addr) (w : World) (hL : Lx w L d c s p) (hs : qAb s) (hb : qAe s p ch) (hc : qDm ch = false) (hb' : qAe s (p + 1) 61) (hE : Eof w a) (hL0 : ¬ L = 0) (h : ch <= 96) :
 Calls prog 281 #[.pointer (some ⟨L, 0, none⟩)] w fun e w' => (∃ v, e = .returned (.tuple #[.nilFunc, .iface 250 v])) /\ Fr (fun k => k = L) w w' := by
 go_enter func281, ntmps281
 go_wp2_with (go_at_call 119; (with_reducible refine (qAi 285 L d c s p ch a _ hL hs hb hc hb' hE hL0 qKv (fun w => clo14_no ch w h)).mono ?_); rintro e w1 ⟨⟨v, rfl⟩, hf1⟩)
 go_ret2
 exact ⟨⟨v, rfl⟩, hf1⟩
theorem st14_end (L : Nat) (d c : Value) (s : ByteArray) (a : Addr) (w : World) (hL : Lx w L d c s s.size) (hs : qAb s) (hE : Eof w a) (hL0 : ¬ L = 0) :
 Calls prog 281 #[.pointer (some ⟨L, 0, none⟩)] w fun e w' => e = .returned (.tuple #[.nilFunc, .nilIface]) /\ Lx w' L d c s s.size /\ Fr (fun k => k = L) w w' := by
 go_enter func281, ntmps281
 go_wp2_with (go_at_call 119; (with_reducible refine (qAh 285 L d c s a _ hL hs hE hL0).mono ?_); rintro e w1 ⟨rfl, hx1, hf1⟩)
 go_ret2
 exact ⟨rfl, hx1, hf1⟩
theorem qO5 : qAw 282 := fun _ _ => by kernel_rfl
theorem qKw : qAw 286 := fun _ _ => by kernel_rfl
theorem qO6 (w : World) : Calls prog 286 #[.int .u8 109] w fun e w' => e = .returned (fv 246) /\ w = w' := by
 go_enter func286, ntmps286
 go_wp2
 go_ret
 exact ⟨rfl, rfl⟩
theorem qO7 (w : World) : Calls prog 286 #[.int .u8 105] w fun e w' => e = .returned (fv 275) /\ w = w' := by
 go_enter func286, ntmps286
 go_wp2
 go_ret
 exact ⟨rfl, rfl⟩
theorem clo15_99 (w : World) : Calls prog 286 #[.int .u8 99] w fun e w' => e = .returned (fv 274) /\ w = w' := by
 go_enter func286, ntmps286
 go_wp2
 go_ret
 exact ⟨rfl, rfl⟩
theorem clo15_98 (w : World) : Calls prog 286 #[.int .u8 98] w fun e w' => e = .returned (fv 273) /\ w = w' := by
 go_enter func286, ntmps286
 go_wp2
 go_ret
 exact ⟨rfl, rfl⟩
theorem qO8 (w : World) : Calls prog 286 #[.int .u8 107] w fun e w' => e = .returned (fv 272) /\ w = w' := by
 go_enter func286, ntmps286
 go_wp2
 go_ret
 exact ⟨rfl, rfl⟩
theorem clo15_97 (w : World) : Calls prog 286 #[.int .u8 97] w fun e w' => e = .returned (fv 271) /\ w = w' := by
 go_enter func286, ntmps286
 go_wp2
 go_ret
 exact ⟨rfl, rfl⟩
theorem clo15_no (c : Int) (w : World) (h : c <= 96) : Calls prog 286 #[.int .u8 c] w fun e w' => e = .returned .nilFunc /\ w = w' := by
 have k109 : (c == 109) = false := by simp; omega
 have k105 : (c == 105) = false := by simp; omega
 have k99 : (c == 99) = false := by simp; omega
 have k98 : (c == 98) = false := by simp; omega
 have k107 : (c == 107) = false := by simp; omega
 have k97 : (c == 97) = false := by simp; omega
 go_enter func286, ntmps286
 go_wp2
 go_ret
 exact ⟨rfl, rfl⟩
theorem st15 (G : Nat) (L : Nat) (d c : Value) (s : ByteArray) (p : Nat) (ch : Int) (a : Addr) (w : World) (hL : Lx w L d c s p) (hs : qAb s) (hb : qAe s p ch) (hc : qDm ch = false) (hb' : qAe s (p + 1) 61) (hE : Eof w a) (hL0 : ¬ L = 0)
 (hf : ∀ w, Calls prog 286 #[.int .u8 ch] w fun e w' => e = .returned (fv G) /\ w = w') :
 Calls prog 282 #[.pointer (some ⟨L, 0, none⟩)] w fun e w' => e = .returned (.tuple #[fv G, .nilIface]) /\ Lx w' L d c s (p + 2) /\ Fr (fun k => k = L) w w' := by
 have HF := hid hf
 clear hf
 go_enter func282, ntmps282
 go_wp2_with (go_at_call 119; (with_reducible refine (qAp 286 G L d c s p ch a _ hL hs hb hc hb' hE hL0 qKw HF.out).mono ?_); rintro e w1 ⟨rfl, hx1, hf1⟩)
 go_ret2
 exact ⟨rfl, hx1, hf1⟩
theorem st15_no (L : Nat) (d c : Value) (s : ByteArray) (p : Nat) (ch : Int) (a : Addr) (w : World) (hL : Lx w L d c s p) (hs : qAb s) (hb : qAe s p ch) (hc : qDm ch = false) (hb' : qAe s (p + 1) 61) (hE : Eof w a) (hL0 : ¬ L = 0) (h : ch <= 96) :
 Calls prog 282 #[.pointer (some ⟨L, 0, none⟩)] w fun e w' => (∃ v, e = .returned (.tuple #[.nilFunc, .iface 250 v])) /\ Fr (fun k => k = L) w w' := by
 go_enter func282, ntmps282
 go_wp2_with (go_at_call 119; (with_reducible refine (qAi 286 L d c s p ch a _ hL hs hb hc hb' hE hL0 qKw (fun w => clo15_no ch w h)).mono ?_); rintro e w1 ⟨⟨v, rfl⟩, hf1⟩)
 go_ret2
 exact ⟨⟨v, rfl⟩, hf1⟩
theorem st15_end (L : Nat) (d c : Value) (s : ByteArray) (a : Addr) (w : World) (hL : Lx w L d c s s.size) (hs : qAb s) (hE : Eof w a) (hL0 : ¬ L = 0) :
 Calls prog 282 #[.pointer (some ⟨L, 0, none⟩)] w fun e w' => e = .returned (.tuple #[.nilFunc, .nilIface]) /\ Lx w' L d c s s.size /\ Fr (fun k => k = L) w w' := by
 go_enter func282, ntmps282
 go_wp2_with (go_at_call 119; (with_reducible refine (qAh 286 L d c s a _ hL hs hE hL0).mono ?_); rintro e w1 ⟨rfl, hx1, hf1⟩)
 go_ret2
 exact ⟨rfl, hx1, hf1⟩
theorem qO9 : qAw 283 := fun _ _ => by kernel_rfl
theorem qKx : qAw 287 := fun _ _ => by kernel_rfl
theorem qPa (w : World) : Calls prog 287 #[.int .u8 109] w fun e w' => e = .returned (fv 246) /\ w = w' := by
 go_enter func287, ntmps287
 go_wp2
 go_ret
 exact ⟨rfl, rfl⟩
theorem qPb (w : World) : Calls prog 287 #[.int .u8 105] w fun e w' => e = .returned (fv 275) /\ w = w' := by
 go_enter func287, ntmps287
 go_wp2
 go_ret
 exact ⟨rfl, rfl⟩
theorem clo16_99 (w : World) : Calls prog 287 #[.int .u8 99] w fun e w' => e = .returned (fv 274) /\ w = w' := by
 go_enter func287, ntmps287
 go_wp2
 go_ret
 exact ⟨rfl, rfl⟩
theorem clo16_98 (w : World) : Calls prog 287 #[.int .u8 98] w fun e w' => e = .returned (fv 273) /\ w = w' := by
 go_enter func287, ntmps287
 go_wp2
 go_ret
 exact ⟨rfl, rfl⟩
theorem qPc (w : World) : Calls prog 287 #[.int .u8 107] w fun e w' => e = .returned (fv 272) /\ w = w' := by
 go_enter func287, ntmps287
 go_wp2
 go_ret
 exact ⟨rfl, rfl⟩
theorem clo16_97 (w : World) : Calls prog 287 #[.int .u8 97] w fun e w' => e = .returned (fv 271) /\ w = w' := by
 go_enter func287, ntmps287
 go_wp2
 go_ret
 exact ⟨rfl, rfl⟩
theorem clo16_no (c : Int) (w : World) (h : c <= 96) : Calls prog 287 #[.int .u8 c] w fun e w' => e = .returned .nilFunc /\ w = w' := by
 have k109 : (c == 109) = false := by simp; omega
 have k105 : (c == 105) = false := by simp; omega
 have k99 : (c == 99) = false := by simp; omega
 have k98 : (c == 98) = false := by simp; omega
 have k107 : (c == 107) = false := by simp; omega
 have k97 : (c == 97) = false := by simp; omega
 go_enter func287, ntmps287
 go_wp2
 go_ret
 exact ⟨rfl, rfl⟩
theorem st16 (G : Nat) (L : Nat) (d c : Value) (s : ByteArray) (p : Nat) (ch : Int) (a : Addr) (w : World) (hL : Lx w L d c s p) (hs : qAb s) (hb : qAe s p ch) (hc : qDm ch = false) (hb' : qAe s (p + 1) 61) (hE : Eof w a) (hL0 : ¬ L = 0)
 (hf : ∀ w, Calls prog 287 #[.int .u8 ch] w fun e w' => e = .returned (fv G) /\ w = w') :
 Calls prog 283 #[.pointer (some ⟨L, 0, none⟩)] w fun e w' => e = .returned (.tuple #[fv G, .nilIface]) /\ Lx w' L d c s (p + 2) /\ Fr (fun k => k = L) w w' := by
 have HF := hid hf
 clear hf
 go_enter func283, ntmps283
 go_wp2_with (go_at_call 119; (with_reducible refine (qAp 287 G L d c s p ch a _ hL hs hb hc hb' hE hL0 qKx HF.out).mono ?_); rintro e w1 ⟨rfl, hx1, hf1⟩)
 go_ret2
 exact ⟨rfl, hx1, hf1⟩
theorem st16_no (L : Nat) (d c : Value) (s : ByteArray) (p : Nat) (ch : Int) (a : Addr) (w : World) (hL : Lx w L d c s p) (hs : qAb s) (hb : qAe s p ch) (hc : qDm ch = false) (hb' : qAe s (p + 1) 61) (hE : Eof w a) (hL0 : ¬ L = 0) (h : ch <= 96) :
 Calls prog 283 #[.pointer (some ⟨L, 0, none⟩)] w fun e w' => (∃ v, e = .returned (.tuple #[.nilFunc, .iface 250 v])) /\ Fr (fun k => k = L) w w' := by
 go_enter func283, ntmps283
 go_wp2_with (go_at_call 119; (with_reducible refine (qAi 287 L d c s p ch a _ hL hs hb hc hb' hE hL0 qKx (fun w => clo16_no ch w h)).mono ?_); rintro e w1 ⟨⟨v, rfl⟩, hf1⟩)
 go_ret2
 exact ⟨⟨v, rfl⟩, hf1⟩
theorem st16_end (L : Nat) (d c : Value) (s : ByteArray) (a : Addr) (w : World) (hL : Lx w L d c s s.size) (hs : qAb s) (hE : Eof w a) (hL0 : ¬ L = 0) :
 Calls prog 283 #[.pointer (some ⟨L, 0, none⟩)] w fun e w' => e = .returned (.tuple #[.nilFunc, .nilIface]) /\ Lx w' L d c s s.size /\ Fr (fun k => k = L) w w' := by
 go_enter func283, ntmps283
 go_wp2_with (go_at_call 119; (with_reducible refine (qAh 287 L d c s a _ hL hs hE hL0).mono ?_); rintro e w1 ⟨rfl, hx1, hf1⟩)
 go_ret2
 exact ⟨rfl, hx1, hf1⟩
def sfn : Nat -> Nat
 | 1 => 64
 | 2 => 146
 | 3 => 177
 | 4 => 214
 | 5 => 230
 | 6 => 227
 | 7 => 224
 | 8 => 228
 | 9 => 232
 | 10 => 226
 | 11 => 253
 | 12 => 258
 | 13 => 252
 | 14 => 281
 | 15 => 282
 | 16 => 283
 | _ => 0
def ufn : Ln -> Nat
 | .lv => 121
 | .lo _ => 162
 | .ls _ => 202
 | .li _ => 217
 | .lu _ => 218
 | .le _ => 219
 | .lp _ => 220
 | .lc _ => 221
 | .lb _ => 222
 | .lt _ => 223
 | .lr _ => 245
 | .lz _ => 242
 | .lk _ => 243
 | .la _ => 244
 | .lm _ => 246
 | .mi _ => 275
 | .mc _ => 274
 | .mb _ => 273
 | .mkey _ => 272
 | .ma _ => 271
theorem qPd : qAw 121 := fun _ _ => by kernel_rfl
theorem qPe : qAw 162 := fun _ _ => by kernel_rfl
theorem qPf : qAw 202 := fun _ _ => by kernel_rfl
theorem qPg : qAw 217 := fun _ _ => by kernel_rfl
theorem qPh : qAw 218 := fun _ _ => by kernel_rfl
theorem qPi : qAw 219 := fun _ _ => by kernel_rfl
theorem qPj : qAw 220 := fun _ _ => by kernel_rfl
theorem qPk : qAw 221 := fun _ _ => by kernel_rfl
theorem qPl : qAw 222 := fun _ _ => by kernel_rfl
theorem qPm : qAw 223 := fun _ _ => by kernel_rfl
theorem qPn : qAw 242 := fun _ _ => by kernel_rfl
theorem qPo : qAw 243 := fun _ _ => by kernel_rfl
theorem qPp : qAw 244 := fun _ _ => by kernel_rfl
theorem qPq : qAw 245 := fun _ _ => by kernel_rfl
theorem qPr : qAw 246 := fun _ _ => by kernel_rfl
theorem qPs : qAw 271 := fun _ _ => by kernel_rfl
theorem qPt : qAw 272 := fun _ _ => by kernel_rfl
theorem qPu : qAw 273 := fun _ _ => by kernel_rfl
theorem qPv : qAw 274 := fun _ _ => by kernel_rfl
theorem qPw : qAw 275 := fun _ _ => by kernel_rfl
theorem qNs (l : Ln) : qAw (ufn l) := by
 cases l
 case lv => exact qPd
 case lo x => exact qPe
 case ls x => exact qPf
 case li x => exact qPg
 case lu x => exact qPh
 case le x => exact qPi
 case lp x => exact qPj
 case lc x => exact qPk
 case lb x => exact qPl
 case lt x => exact qPm
 case lr x => exact qPq
 case lz x => exact qPn
 case lk x => exact qPo
 case la x => exact qPp
 case lm x => exact qPr
 case mi x => exact qPw
 case mc x => exact qPv
 case mb x => exact qPu
 case mkey x => exact qPt
 case ma x => exact qPs
theorem qNt (n : Nat) (h1 : 1 <= n) (h2 : n <= 16) : qAw (sfn n) := by
 have : n = 1 ∨ n = 2 ∨ n = 3 ∨ n = 4 ∨ n = 5 ∨ n = 6 ∨ n = 7 ∨ n = 8 ∨ n = 9 ∨ n = 10 ∨ n = 11 ∨ n = 12 ∨ n = 13 ∨ n = 14 ∨ n = 15 ∨ n = 16 := by omega
 rcases this with rfl | rfl | rfl | rfl | rfl | rfl | rfl | rfl | rfl | rfl | rfl | rfl | rfl | rfl | rfl | rfl
 · exact enters64
 · exact qOg
 · exact qOh
 · exact qOi
 · exact qOj
 · exact qOk
 · exact qOl
 · exact qOm
 · exact qOn
 · exact qOo
 · exact qOs
 · exact qOu
 · exact qOy
 · exact qO1
 · exact qO5
 exact qO9
theorem st_known (n : Nat) (l : Ln) (hn : n ∈ l.from_) (L : Nat) (d c : Value) (s : ByteArray) (p : Nat) (a : Addr) (w : World) (hL : Lx w L d c s p) (hs : qAb s) (hb : qAe s p (l.key.toNat : Int)) (hb' : qAe s (p + 1) 61) (hE : Eof w a) (hL0 : ¬ L = 0) :
 Calls prog (sfn n) #[.pointer (some ⟨L, 0, none⟩)] w fun e w' => e = .returned (.tuple #[fv (ufn l), .nilIface]) /\ Lx w' L d c s (p + 2) /\ Fr (fun k => k = L) w w' := by
 cases l
 case lv =>
  simp only [Ln.from_, mem_cons, not_mem_nil, or_false] at hn
  subst hn
  exact st1 121 L d c s p 118 a w hL hs hb (by decide) hb' hE hL0 clo1_118
 case lo x =>
  simp only [Ln.from_, mem_cons, not_mem_nil, or_false] at hn
  subst hn
  exact st2 162 L d c s p 111 a w hL hs hb (by decide) hb' hE hL0 clo2_111
 case ls x =>
  simp only [Ln.from_, mem_cons, not_mem_nil, or_false] at hn
  subst hn
  exact st3 202 L d c s p 115 a w hL hs hb (by decide) hb' hE hL0 clo3_115
 case li x =>
  simp only [Ln.from_, mem_cons, not_mem_nil, or_false] at hn
  subst hn
  exact st4 217 L d c s p 105 a w hL hs hb (by decide) hb' hE hL0 clo4_105
 case lu x =>
  simp only [Ln.from_, mem_cons, not_mem_nil, or_false] at hn
  rcases hn with rfl | rfl
  · exact st4 218 L d c s p 117 a w hL hs hb (by decide) hb' hE hL0 clo4_117
  exact st7 218 L d c s p 117 a w hL hs hb (by decide) hb' hE hL0 clo7_117
 case le x =>
  simp only [Ln.from_, mem_cons, not_mem_nil, or_false] at hn
  rcases hn with rfl | rfl | rfl
  · exact st4 219 L d c s p 101 a w hL hs hb (by decide) hb' hE hL0 clo4_101
  · exact st7 219 L d c s p 101 a w hL hs hb (by decide) hb' hE hL0 clo7_101
  exact st10 219 L d c s p 101 a w hL hs hb (by decide) hb' hE hL0 qOp
 case lp x =>
  simp only [Ln.from_, mem_cons, not_mem_nil, or_false] at hn
  rcases hn with rfl | rfl | rfl | rfl
  · exact st4 220 L d c s p 112 a w hL hs hb (by decide) hb' hE hL0 clo4_112
  · exact st6 220 L d c s p 112 a w hL hs hb (by decide) hb' hE hL0 clo6_112
  · exact st7 220 L d c s p 112 a w hL hs hb (by decide) hb' hE hL0 clo7_112
  exact st10 220 L d c s p 112 a w hL hs hb (by decide) hb' hE hL0 qOq
 case lc x =>
  simp only [Ln.from_, mem_cons, not_mem_nil, or_false] at hn
  rcases hn with rfl | rfl | rfl | rfl | rfl
  · exact st4 221 L d c s p 99 a w hL hs hb (by decide) hb' hE hL0 clo4_99
  · exact st6 221 L d c s p 99 a w hL hs hb (by decide) hb' hE hL0 clo6_99
  · exact st7 221 L d c s p 99 a w hL hs hb (by decide) hb' hE hL0 clo7_99
  · exact st8 221 L d c s p 99 a w hL hs hb (by decide) hb' hE hL0 clo8_99
  exact st10 221 L d c s p 99 a w hL hs hb (by decide) hb' hE hL0 clo10_99
 case lb x =>
  simp only [Ln.from_, mem_cons, not_mem_nil, or_false] at hn
  rcases hn with rfl | rfl | rfl | rfl | rfl | rfl
  · exact st4 222 L d c s p 98 a w hL hs hb (by decide) hb' hE hL0 clo4_98
  · exact st5 222 L d c s p 98 a w hL hs hb (by decide) hb' hE hL0 clo5_98
  · exact st6 222 L d c s p 98 a w hL hs hb (by decide) hb' hE hL0 clo6_98
  · exact st7 222 L d c s p 98 a w hL hs hb (by decide) hb' hE hL0 clo7_98
  · exact st8 222 L d c s p 98 a w hL hs hb (by decide) hb' hE hL0 clo8_98
  exact st10 222 L d c s p 98 a w hL hs hb (by decide) hb' hE hL0 clo10_98
 case lt x =>
  simp only [Ln.from_, mem_cons, not_mem_nil, or_false] at hn
  rcases hn with rfl | rfl | rfl | rfl | rfl | rfl | rfl
  · exact st4 223 L d c s p 116 a w hL hs hb (by decide) hb' hE hL0 clo4_116
  · exact st5 223 L d c s p 116 a w hL hs hb (by decide) hb' hE hL0 clo5_116
  · exact st6 223 L d c s p 116 a w hL hs hb (by decide) hb' hE hL0 clo6_116
  · exact st7 223 L d c s p 116 a w hL hs hb (by decide) hb' hE hL0 clo7_116
  · exact st8 223 L d c s p 116 a w hL hs hb (by decide) hb' hE hL0 clo8_116
  · exact st9 223 L d c s p 116 a w hL hs hb (by decide) hb' hE hL0 clo9_116
  exact st10 223 L d c s p 116 a w hL hs hb (by decide) hb' hE hL0 qOr
 case lr x =>
  simp only [Ln.from_, mem_cons, not_mem_nil, or_false] at hn
  subst hn
  exact st9 245 L d c s p 114 a w hL hs hb (by decide) hb' hE hL0 clo9_114
 case lz x =>
  simp only [Ln.from_, mem_cons, not_mem_nil, or_false] at hn
  subst hn
  exact st9 242 L d c s p 122 a w hL hs hb (by decide) hb' hE hL0 clo9_122
 case lk x =>
  simp only [Ln.from_, mem_cons, not_mem_nil, or_false] at hn
  rcases hn with rfl | rfl
  · exact st9 243 L d c s p 107 a w hL hs hb (by decide) hb' hE hL0 clo9_107
  exact st13 243 L d c s p 107 a w hL hs hb (by decide) hb' hE hL0 qOz
 case la x =>
  simp only [Ln.from_, mem_cons, not_mem_nil, or_false] at hn
  rcases hn with rfl | rfl | rfl
  · exact st9 244 L d c s p 97 a w hL hs hb (by decide) hb' hE hL0 clo9_97
  · exact st11 244 L d c s p 97 a w hL hs hb (by decide) hb' hE hL0 clo11_97
  exact st13 244 L d c s p 97 a w hL hs hb (by decide) hb' hE hL0 clo13_97
 case lm x =>
  simp only [Ln.from_, mem_cons, not_mem_nil, or_false] at hn
  rcases hn with rfl | rfl | rfl | rfl | rfl | rfl | rfl
  · exact st9 246 L d c s p 109 a w hL hs hb (by decide) hb' hE hL0 clo9_109
  · exact st11 246 L d c s p 109 a w hL hs hb (by decide) hb' hE hL0 qOt
  · exact st12 246 L d c s p 109 a w hL hs hb (by decide) hb' hE hL0 qOv
  · exact st13 246 L d c s p 109 a w hL hs hb (by decide) hb' hE hL0 qO0
  · exact st14 246 L d c s p 109 a w hL hs hb (by decide) hb' hE hL0 qO2
  · exact st15 246 L d c s p 109 a w hL hs hb (by decide) hb' hE hL0 qO6
  exact st16 246 L d c s p 109 a w hL hs hb (by decide) hb' hE hL0 qPa
 case mi x =>
  simp only [Ln.from_, mem_cons, not_mem_nil, or_false] at hn
  rcases hn with rfl | rfl | rfl | rfl
  · exact st12 275 L d c s p 105 a w hL hs hb (by decide) hb' hE hL0 qOw
  · exact st14 275 L d c s p 105 a w hL hs hb (by decide) hb' hE hL0 qO3
  · exact st15 275 L d c s p 105 a w hL hs hb (by decide) hb' hE hL0 qO7
  exact st16 275 L d c s p 105 a w hL hs hb (by decide) hb' hE hL0 qPb
 case mc x =>
  simp only [Ln.from_, mem_cons, not_mem_nil, or_false] at hn
  rcases hn with rfl | rfl | rfl | rfl
  · exact st12 274 L d c s p 99 a w hL hs hb (by decide) hb' hE hL0 clo12_99
  · exact st14 274 L d c s p 99 a w hL hs hb (by decide) hb' hE hL0 clo14_99
  · exact st15 274 L d c s p 99 a w hL hs hb (by decide) hb' hE hL0 clo15_99
  exact st16 274 L d c s p 99 a w hL hs hb (by decide) hb' hE hL0 clo16_99
 case mb x =>
  simp only [Ln.from_, mem_cons, not_mem_nil, or_false] at hn
  rcases hn with rfl | rfl | rfl | rfl
  · exact st12 273 L d c s p 98 a w hL hs hb (by decide) hb' hE hL0 clo12_98
  · exact st14 273 L d c s p 98 a w hL hs hb (by decide) hb' hE hL0 clo14_98
  · exact st15 273 L d c s p 98 a w hL hs hb (by decide) hb' hE hL0 clo15_98
  exact st16 273 L d c s p 98 a w hL hs hb (by decide) hb' hE hL0 clo16_98
 case mkey x =>
  simp only [Ln.from_, mem_cons, not_mem_nil, or_false] at hn
  rcases hn with rfl | rfl | rfl | rfl
  · exact st12 272 L d c s p 107 a w hL hs hb (by decide) hb' hE hL0 qOx
  · exact st14 272 L d c s p 107 a w hL hs hb (by decide) hb' hE hL0 qO4
  · exact st15 272 L d c s p 107 a w hL hs hb (by decide) hb' hE hL0 qO8
  exact st16 272 L d c s p 107 a w hL hs hb (by decide) hb' hE hL0 qPc
 case ma x =>
  simp only [Ln.from_, mem_cons, not_mem_nil, or_false] at hn
  rcases hn with rfl | rfl | rfl | rfl
  · exact st12 271 L d c s p 97 a w hL hs hb (by decide) hb' hE hL0 clo12_97
  · exact st14 271 L d c s p 97 a w hL hs hb (by decide) hb' hE hL0 clo14_97
  · exact st15 271 L d c s p 97 a w hL hs hb (by decide) hb' hE hL0 clo15_97
  exact st16 271 L d c s p 97 a w hL hs hb (by decide) hb' hE hL0 clo16_97
theorem st_no (n : Nat) (h1 : 1 <= n) (h2 : n <= 16) (L : Nat) (d c : Value) (s : ByteArray) (p : Nat) (ch : Int) (a : Addr) (w : World) (hL : Lx w L d c s p) (hs : qAb s) (hb : qAe s p ch) (hc : qDm ch = false) (hb' : qAe s (p + 1) 61) (hE : Eof w a) (hL0 : ¬ L = 0) (h : ch <= 96) :
 Calls prog (sfn n) #[.pointer (some ⟨L, 0, none⟩)] w fun e w' => (∃ v, e = .returned (.tuple #[.nilFunc, .iface 250 v])) /\ Fr (fun k => k = L) w w' := by
 have : n = 1 ∨ n = 2 ∨ n = 3 ∨ n = 4 ∨ n = 5 ∨ n = 6 ∨ n = 7 ∨ n = 8 ∨ n = 9 ∨ n = 10 ∨ n = 11 ∨ n = 12 ∨ n = 13 ∨ n = 14 ∨ n = 15 ∨ n = 16 := by omega
 rcases this with rfl | rfl | rfl | rfl | rfl | rfl | rfl | rfl | rfl | rfl | rfl | rfl | rfl | rfl | rfl | rfl
 · exact st1_no L d c s p ch a w hL hs hb hc hb' hE hL0 h
 · exact st2_no L d c s p ch a w hL hs hb hc hb' hE hL0 h
 · exact st3_no L d c s p ch a w hL hs hb hc hb' hE hL0 h
 · exact st4_no L d c s p ch a w hL hs hb hc hb' hE hL0 h
 · exact st5_no L d c s p ch a w hL hs hb hc hb' hE hL0 h
 · exact st6_no L d c s p ch a w hL hs hb hc hb' hE hL0 h
 · exact st7_no L d c s p ch a w hL hs hb hc hb' hE hL0 h
 · exact st8_no L d c s p ch a w hL hs hb hc hb' hE hL0 h
 · exact st9_no L d c s p ch a w hL hs hb hc hb' hE hL0 h
 · exact st10_no L d c s p ch a w hL hs hb hc hb' hE hL0 h
 · exact st11_no L d c s p ch a w hL hs hb hc hb' hE hL0 h
 · exact st12_no L d c s p ch a w hL hs hb hc hb' hE hL0 h
 · exact st13_no L d c s p ch a w hL hs hb hc hb' hE hL0 h
 · exact st14_no L d c s p ch a w hL hs hb hc hb' hE hL0 h
 · exact st15_no L d c s p ch a w hL hs hb hc hb' hE hL0 h
 exact st16_no L d c s p ch a w hL hs hb hc hb' hE hL0 h
theorem st_end (n : Nat) (h1 : 1 <= n) (h2 : n <= 16) (L : Nat) (d c : Value) (s : ByteArray) (a : Addr) (w : World) (hL : Lx w L d c s s.size) (hs : qAb s) (hE : Eof w a) (hL0 : ¬ L = 0) :
 Calls prog (sfn n) #[.pointer (some ⟨L, 0, none⟩)] w fun e w' => e = .returned (.tuple #[.nilFunc, .nilIface]) /\ Lx w' L d c s s.size /\ Fr (fun k => k = L) w w' := by
 have : n = 1 ∨ n = 2 ∨ n = 3 ∨ n = 4 ∨ n = 5 ∨ n = 6 ∨ n = 7 ∨ n = 8 ∨ n = 9 ∨ n = 10 ∨ n = 11 ∨ n = 12 ∨ n = 13 ∨ n = 14 ∨ n = 15 ∨ n = 16 := by omega
 rcases this with rfl | rfl | rfl | rfl | rfl | rfl | rfl | rfl | rfl | rfl | rfl | rfl | rfl | rfl | rfl | rfl
 · exact st1_end L d c s a w hL hs hE hL0
 · exact st2_end L d c s a w hL hs hE hL0
 · exact st3_end L d c s a w hL hs hE hL0
 · exact st4_end L d c s a w hL hs hE hL0
 · exact st5_end L d c s a w hL hs hE hL0
 · exact st6_end L d c s a w hL hs hE hL0
 · exact st7_end L d c s a w hL hs hE hL0
 · exact st8_end L d c s a w hL hs hE hL0
 · exact st9_end L d c s a w hL hs hE hL0
 · exact st10_end L d c s a w hL hs hE hL0
 · exact st11_end L d c s a w hL hs hE hL0
 · exact st12_end L d c s a w hL hs hE hL0
 · exact st13_end L d c s a w hL hs hE hL0
 · exact st14_end L d c s a w hL hs hE hL0
 · exact st15_end L d c s a w hL hs hE hL0
 exact st16_end L d c s a w hL hs hE hL0
end Go.Proofs.YtcepdjlknalmnaaGreatDoor

/- The parser's states: what each does at a line's type. Written by a small program of this claim's own (genpar). -/
import Derived.Test.YtcepdjlknalmnaaGreatDoorLexC
import Derived.Test.YtcepdjlknalmnaaGreatDoorLns
namespace Go.Proofs.YtcepdjlknalmnaaGreatDoor
open Go.RowKit
set_option linter.unusedSimpArgs false
set_option linter.unusedVariables false
abbrev fv (f : Nat) : Value := .func (.func f) #[] #[]
def Enters (f : Nat) : Prop := ∀ (args : Array Value) (w : World), (callFunc f args).run Tryz.prog w = .ok (.enter f args) w
set_option maxRecDepth 100000 in
theorem par_handleType (f G : Nat) (L : Nat) (d c : Value) (s : ByteArray) (p : Nat) (ch : Int) (a : Addr) (w : World) (hL : Lx w L d c s p) (hs : WfStr s) (hb : ByteAt s p ch) (hc : isNl ch = false) (hb' : ByteAt s (p + 1) 61) (hE : Eof w a) (hL0 : ¬ L = 0)
 (he : Enters f) (hf : ∀ w, Calls Tryz.prog f #[.int .u8 ch] w fun e w' => e = .returned (fv G) ∧ w = w') :
 Calls Tryz.prog 119 #[.pointer (some ⟨L, 0, none⟩), fv f] w fun e w' => e = .returned (.tuple #[fv G, .nilIface]) ∧ Lx w' L d c s (p + 2) ∧ Fr (fun k => k = L) w w' := by
 have HF := Lib.hid hf
 have hen : ∀ (args : Array Value) (w : World), (callFunc f args).run Tryz.prog w = .ok (.enter f args) w := he
 clear hf he
 go_enter Tryz.func119, Tryz.ntmps119
 go_wp2_with (first | (go_at_call 141; (with_reducible refine (lex_readType L d c s p ch _ hL hs hb hc hb').mono ?_); rintro e w1 ⟨rfl, hx1, hf1⟩; have hE2 : Eof w1 a := hE.fr hf1 (fun e => hL0 e.symm); have g1 : w1.cell? ⟨0, 0, none⟩ = some (.iface 348 (.pointer (some a))) := hE2) | (go_at_call 142; (with_reducible refine (is_nil a _).mono ?_); rintro e w' ⟨rfl, rfl⟩))
 refine (HF.out _).mono ?_
 rintro e w' ⟨rfl, rfl⟩
 have hq : ∀ w : World, (binOp .neq 157 (.func (.func G) #[] #[]) .nilFunc).run Tryz.prog w = .ok (.bool true) w := fun w => by kernel_rfl
 go_wp2
 go_ret2
 exact ⟨rfl, hx1, hf1⟩
set_option maxRecDepth 100000 in
theorem par_handleType_no (f : Nat) (L : Nat) (d c : Value) (s : ByteArray) (p : Nat) (ch : Int) (a : Addr) (w : World) (hL : Lx w L d c s p) (hs : WfStr s) (hb : ByteAt s p ch) (hc : isNl ch = false) (hb' : ByteAt s (p + 1) 61) (hE : Eof w a) (hL0 : ¬ L = 0)
 (he : Enters f) (hf : ∀ w, Calls Tryz.prog f #[.int .u8 ch] w fun e w' => e = .returned .nilFunc ∧ w = w') :
 Calls Tryz.prog 119 #[.pointer (some ⟨L, 0, none⟩), fv f] w fun e w' => (∃ v, e = .returned (.tuple #[.nilFunc, .iface 250 v])) ∧ Fr (fun k => k = L) w w' := by
 have HF := Lib.hid hf
 have hen : ∀ (args : Array Value) (w : World), (callFunc f args).run Tryz.prog w = .ok (.enter f args) w := he
 have hp2 := hb'.lt
 clear hf he
 go_enter Tryz.func119, Tryz.ntmps119
 go_wp2_with (first | (go_at_call 141; (with_reducible refine (lex_readType L d c s p ch _ hL hs hb hc hb').mono ?_); rintro e w1 ⟨rfl, hx1, hf1⟩; have hE2 : Eof w1 a := hE.fr hf1 (fun e => hL0 e.symm); have g1 : w1.cell? ⟨0, 0, none⟩ = some (.iface 348 (.pointer (some a))) := hE2) | (go_at_call 142; (with_reducible refine (is_nil a _).mono ?_); rintro e w' ⟨rfl, rfl⟩))
 refine (HF.out _).mono ?_
 rintro e w' ⟨rfl, rfl⟩
 have hq : ∀ w : World, (binOp .neq 157 .nilFunc .nilFunc).run Tryz.prog w = .ok (.bool false) w := fun w => by kernel_rfl
 go_wp2_with (go_at_call 143; (with_reducible refine (lex_syntaxError L d c s (p + 2) _ hx1 hs (by omega)).mono ?_); rintro e w2 ⟨⟨v, rfl⟩, hx2, hf2⟩)
 go_ret2
 exact ⟨⟨v, rfl⟩, hf1.trans (hf2.mono (fun k _ e => .inl e))⟩
set_option maxRecDepth 100000 in
theorem par_handleType_end (f : Nat) (L : Nat) (d c : Value) (s : ByteArray) (a : Addr) (w : World) (hL : Lx w L d c s s.size) (hs : WfStr s) (hE : Eof w a) (hL0 : ¬ L = 0) :
 Calls Tryz.prog 119 #[.pointer (some ⟨L, 0, none⟩), fv f] w fun e w' => e = .returned (.tuple #[.nilFunc, .nilIface]) ∧ Lx w' L d c s s.size ∧ Fr (fun k => k = L) w w' := by
 go_enter Tryz.func119, Tryz.ntmps119
 go_wp2_with (first | (go_at_call 141; (with_reducible refine (lex_readType_end L d c s a _ hL hs hE).mono ?_); rintro e w1 ⟨rfl, hx1, hf1⟩; have hE2 : Eof w1 a := hE.fr hf1 (fun e => hL0 e.symm); have g1 : w1.cell? ⟨0, 0, none⟩ = some (.iface 348 (.pointer (some a))) := hE2) | (go_at_call 142; (with_reducible refine (is_same a _).mono ?_); rintro e w' ⟨rfl, rfl⟩))
 go_ret2
 exact ⟨rfl, hx1, hf1⟩
theorem enters64 : Enters 64 := fun _ _ => by kernel_rfl
theorem enters120 : Enters 120 := fun _ _ => by kernel_rfl
theorem clo1_118 (w : World) : Calls Tryz.prog 120 #[.int .u8 118] w fun e w' => e = .returned (fv 121) ∧ w = w' := by
 go_enter Tryz.func120, Tryz.ntmps120
 go_wp2
 go_ret
 exact ⟨rfl, rfl⟩
theorem clo1_no (c : Int) (w : World) (h : c ≤ 96) : Calls Tryz.prog 120 #[.int .u8 c] w fun e w' => e = .returned .nilFunc ∧ w = w' := by
 have k118 : (c == 118) = false := by simp; omega
 go_enter Tryz.func120, Tryz.ntmps120
 go_wp2
 go_ret
 exact ⟨rfl, rfl⟩
theorem st1 (G : Nat) (L : Nat) (d c : Value) (s : ByteArray) (p : Nat) (ch : Int) (a : Addr) (w : World) (hL : Lx w L d c s p) (hs : WfStr s) (hb : ByteAt s p ch) (hc : isNl ch = false) (hb' : ByteAt s (p + 1) 61) (hE : Eof w a) (hL0 : ¬ L = 0)
 (hf : ∀ w, Calls Tryz.prog 120 #[.int .u8 ch] w fun e w' => e = .returned (fv G) ∧ w = w') :
 Calls Tryz.prog 64 #[.pointer (some ⟨L, 0, none⟩)] w fun e w' => e = .returned (.tuple #[fv G, .nilIface]) ∧ Lx w' L d c s (p + 2) ∧ Fr (fun k => k = L) w w' := by
 have HF := Lib.hid hf
 clear hf
 go_enter Tryz.func64, Tryz.ntmps64
 go_wp2_with (go_at_call 119; (with_reducible refine (par_handleType 120 G L d c s p ch a _ hL hs hb hc hb' hE hL0 enters120 HF.out).mono ?_); rintro e w1 ⟨rfl, hx1, hf1⟩)
 go_ret2
 exact ⟨rfl, hx1, hf1⟩
theorem st1_no (L : Nat) (d c : Value) (s : ByteArray) (p : Nat) (ch : Int) (a : Addr) (w : World) (hL : Lx w L d c s p) (hs : WfStr s) (hb : ByteAt s p ch) (hc : isNl ch = false) (hb' : ByteAt s (p + 1) 61) (hE : Eof w a) (hL0 : ¬ L = 0) (h : ch ≤ 96) :
 Calls Tryz.prog 64 #[.pointer (some ⟨L, 0, none⟩)] w fun e w' => (∃ v, e = .returned (.tuple #[.nilFunc, .iface 250 v])) ∧ Fr (fun k => k = L) w w' := by
 go_enter Tryz.func64, Tryz.ntmps64
 go_wp2_with (go_at_call 119; (with_reducible refine (par_handleType_no 120 L d c s p ch a _ hL hs hb hc hb' hE hL0 enters120 (fun w => clo1_no ch w h)).mono ?_); rintro e w1 ⟨⟨v, rfl⟩, hf1⟩)
 go_ret2
 exact ⟨⟨v, rfl⟩, hf1⟩
theorem st1_end (L : Nat) (d c : Value) (s : ByteArray) (a : Addr) (w : World) (hL : Lx w L d c s s.size) (hs : WfStr s) (hE : Eof w a) (hL0 : ¬ L = 0) :
 Calls Tryz.prog 64 #[.pointer (some ⟨L, 0, none⟩)] w fun e w' => e = .returned (.tuple #[.nilFunc, .nilIface]) ∧ Lx w' L d c s s.size ∧ Fr (fun k => k = L) w w' := by
 go_enter Tryz.func64, Tryz.ntmps64
 go_wp2_with (go_at_call 119; (with_reducible refine (par_handleType_end 120 L d c s a _ hL hs hE hL0).mono ?_); rintro e w1 ⟨rfl, hx1, hf1⟩)
 go_ret2
 exact ⟨rfl, hx1, hf1⟩
theorem enters146 : Enters 146 := fun _ _ => by kernel_rfl
theorem enters161 : Enters 161 := fun _ _ => by kernel_rfl
theorem clo2_111 (w : World) : Calls Tryz.prog 161 #[.int .u8 111] w fun e w' => e = .returned (fv 162) ∧ w = w' := by
 go_enter Tryz.func161, Tryz.ntmps161
 go_wp2
 go_ret
 exact ⟨rfl, rfl⟩
theorem clo2_no (c : Int) (w : World) (h : c ≤ 96) : Calls Tryz.prog 161 #[.int .u8 c] w fun e w' => e = .returned .nilFunc ∧ w = w' := by
 have k111 : (c == 111) = false := by simp; omega
 go_enter Tryz.func161, Tryz.ntmps161
 go_wp2
 go_ret
 exact ⟨rfl, rfl⟩
theorem st2 (G : Nat) (L : Nat) (d c : Value) (s : ByteArray) (p : Nat) (ch : Int) (a : Addr) (w : World) (hL : Lx w L d c s p) (hs : WfStr s) (hb : ByteAt s p ch) (hc : isNl ch = false) (hb' : ByteAt s (p + 1) 61) (hE : Eof w a) (hL0 : ¬ L = 0)
 (hf : ∀ w, Calls Tryz.prog 161 #[.int .u8 ch] w fun e w' => e = .returned (fv G) ∧ w = w') :
 Calls Tryz.prog 146 #[.pointer (some ⟨L, 0, none⟩)] w fun e w' => e = .returned (.tuple #[fv G, .nilIface]) ∧ Lx w' L d c s (p + 2) ∧ Fr (fun k => k = L) w w' := by
 have HF := Lib.hid hf
 clear hf
 go_enter Tryz.func146, Tryz.ntmps146
 go_wp2_with (go_at_call 119; (with_reducible refine (par_handleType 161 G L d c s p ch a _ hL hs hb hc hb' hE hL0 enters161 HF.out).mono ?_); rintro e w1 ⟨rfl, hx1, hf1⟩)
 go_ret2
 exact ⟨rfl, hx1, hf1⟩
theorem st2_no (L : Nat) (d c : Value) (s : ByteArray) (p : Nat) (ch : Int) (a : Addr) (w : World) (hL : Lx w L d c s p) (hs : WfStr s) (hb : ByteAt s p ch) (hc : isNl ch = false) (hb' : ByteAt s (p + 1) 61) (hE : Eof w a) (hL0 : ¬ L = 0) (h : ch ≤ 96) :
 Calls Tryz.prog 146 #[.pointer (some ⟨L, 0, none⟩)] w fun e w' => (∃ v, e = .returned (.tuple #[.nilFunc, .iface 250 v])) ∧ Fr (fun k => k = L) w w' := by
 go_enter Tryz.func146, Tryz.ntmps146
 go_wp2_with (go_at_call 119; (with_reducible refine (par_handleType_no 161 L d c s p ch a _ hL hs hb hc hb' hE hL0 enters161 (fun w => clo2_no ch w h)).mono ?_); rintro e w1 ⟨⟨v, rfl⟩, hf1⟩)
 go_ret2
 exact ⟨⟨v, rfl⟩, hf1⟩
theorem st2_end (L : Nat) (d c : Value) (s : ByteArray) (a : Addr) (w : World) (hL : Lx w L d c s s.size) (hs : WfStr s) (hE : Eof w a) (hL0 : ¬ L = 0) :
 Calls Tryz.prog 146 #[.pointer (some ⟨L, 0, none⟩)] w fun e w' => e = .returned (.tuple #[.nilFunc, .nilIface]) ∧ Lx w' L d c s s.size ∧ Fr (fun k => k = L) w w' := by
 go_enter Tryz.func146, Tryz.ntmps146
 go_wp2_with (go_at_call 119; (with_reducible refine (par_handleType_end 161 L d c s a _ hL hs hE hL0).mono ?_); rintro e w1 ⟨rfl, hx1, hf1⟩)
 go_ret2
 exact ⟨rfl, hx1, hf1⟩
theorem enters177 : Enters 177 := fun _ _ => by kernel_rfl
theorem enters201 : Enters 201 := fun _ _ => by kernel_rfl
theorem clo3_115 (w : World) : Calls Tryz.prog 201 #[.int .u8 115] w fun e w' => e = .returned (fv 202) ∧ w = w' := by
 go_enter Tryz.func201, Tryz.ntmps201
 go_wp2
 go_ret
 exact ⟨rfl, rfl⟩
theorem clo3_no (c : Int) (w : World) (h : c ≤ 96) : Calls Tryz.prog 201 #[.int .u8 c] w fun e w' => e = .returned .nilFunc ∧ w = w' := by
 have k115 : (c == 115) = false := by simp; omega
 go_enter Tryz.func201, Tryz.ntmps201
 go_wp2
 go_ret
 exact ⟨rfl, rfl⟩
theorem st3 (G : Nat) (L : Nat) (d c : Value) (s : ByteArray) (p : Nat) (ch : Int) (a : Addr) (w : World) (hL : Lx w L d c s p) (hs : WfStr s) (hb : ByteAt s p ch) (hc : isNl ch = false) (hb' : ByteAt s (p + 1) 61) (hE : Eof w a) (hL0 : ¬ L = 0)
 (hf : ∀ w, Calls Tryz.prog 201 #[.int .u8 ch] w fun e w' => e = .returned (fv G) ∧ w = w') :
 Calls Tryz.prog 177 #[.pointer (some ⟨L, 0, none⟩)] w fun e w' => e = .returned (.tuple #[fv G, .nilIface]) ∧ Lx w' L d c s (p + 2) ∧ Fr (fun k => k = L) w w' := by
 have HF := Lib.hid hf
 clear hf
 go_enter Tryz.func177, Tryz.ntmps177
 go_wp2_with (go_at_call 119; (with_reducible refine (par_handleType 201 G L d c s p ch a _ hL hs hb hc hb' hE hL0 enters201 HF.out).mono ?_); rintro e w1 ⟨rfl, hx1, hf1⟩)
 go_ret2
 exact ⟨rfl, hx1, hf1⟩
theorem st3_no (L : Nat) (d c : Value) (s : ByteArray) (p : Nat) (ch : Int) (a : Addr) (w : World) (hL : Lx w L d c s p) (hs : WfStr s) (hb : ByteAt s p ch) (hc : isNl ch = false) (hb' : ByteAt s (p + 1) 61) (hE : Eof w a) (hL0 : ¬ L = 0) (h : ch ≤ 96) :
 Calls Tryz.prog 177 #[.pointer (some ⟨L, 0, none⟩)] w fun e w' => (∃ v, e = .returned (.tuple #[.nilFunc, .iface 250 v])) ∧ Fr (fun k => k = L) w w' := by
 go_enter Tryz.func177, Tryz.ntmps177
 go_wp2_with (go_at_call 119; (with_reducible refine (par_handleType_no 201 L d c s p ch a _ hL hs hb hc hb' hE hL0 enters201 (fun w => clo3_no ch w h)).mono ?_); rintro e w1 ⟨⟨v, rfl⟩, hf1⟩)
 go_ret2
 exact ⟨⟨v, rfl⟩, hf1⟩
theorem st3_end (L : Nat) (d c : Value) (s : ByteArray) (a : Addr) (w : World) (hL : Lx w L d c s s.size) (hs : WfStr s) (hE : Eof w a) (hL0 : ¬ L = 0) :
 Calls Tryz.prog 177 #[.pointer (some ⟨L, 0, none⟩)] w fun e w' => e = .returned (.tuple #[.nilFunc, .nilIface]) ∧ Lx w' L d c s s.size ∧ Fr (fun k => k = L) w w' := by
 go_enter Tryz.func177, Tryz.ntmps177
 go_wp2_with (go_at_call 119; (with_reducible refine (par_handleType_end 201 L d c s a _ hL hs hE hL0).mono ?_); rintro e w1 ⟨rfl, hx1, hf1⟩)
 go_ret2
 exact ⟨rfl, hx1, hf1⟩
theorem enters214 : Enters 214 := fun _ _ => by kernel_rfl
theorem enters216 : Enters 216 := fun _ _ => by kernel_rfl
theorem clo4_105 (w : World) : Calls Tryz.prog 216 #[.int .u8 105] w fun e w' => e = .returned (fv 217) ∧ w = w' := by
 go_enter Tryz.func216, Tryz.ntmps216
 go_wp2
 go_ret
 exact ⟨rfl, rfl⟩
theorem clo4_117 (w : World) : Calls Tryz.prog 216 #[.int .u8 117] w fun e w' => e = .returned (fv 218) ∧ w = w' := by
 go_enter Tryz.func216, Tryz.ntmps216
 go_wp2
 go_ret
 exact ⟨rfl, rfl⟩
theorem clo4_101 (w : World) : Calls Tryz.prog 216 #[.int .u8 101] w fun e w' => e = .returned (fv 219) ∧ w = w' := by
 go_enter Tryz.func216, Tryz.ntmps216
 go_wp2
 go_ret
 exact ⟨rfl, rfl⟩
theorem clo4_112 (w : World) : Calls Tryz.prog 216 #[.int .u8 112] w fun e w' => e = .returned (fv 220) ∧ w = w' := by
 go_enter Tryz.func216, Tryz.ntmps216
 go_wp2
 go_ret
 exact ⟨rfl, rfl⟩
theorem clo4_99 (w : World) : Calls Tryz.prog 216 #[.int .u8 99] w fun e w' => e = .returned (fv 221) ∧ w = w' := by
 go_enter Tryz.func216, Tryz.ntmps216
 go_wp2
 go_ret
 exact ⟨rfl, rfl⟩
theorem clo4_98 (w : World) : Calls Tryz.prog 216 #[.int .u8 98] w fun e w' => e = .returned (fv 222) ∧ w = w' := by
 go_enter Tryz.func216, Tryz.ntmps216
 go_wp2
 go_ret
 exact ⟨rfl, rfl⟩
theorem clo4_116 (w : World) : Calls Tryz.prog 216 #[.int .u8 116] w fun e w' => e = .returned (fv 223) ∧ w = w' := by
 go_enter Tryz.func216, Tryz.ntmps216
 go_wp2
 go_ret
 exact ⟨rfl, rfl⟩
theorem clo4_no (c : Int) (w : World) (h : c ≤ 96) : Calls Tryz.prog 216 #[.int .u8 c] w fun e w' => e = .returned .nilFunc ∧ w = w' := by
 have k105 : (c == 105) = false := by simp; omega
 have k117 : (c == 117) = false := by simp; omega
 have k101 : (c == 101) = false := by simp; omega
 have k112 : (c == 112) = false := by simp; omega
 have k99 : (c == 99) = false := by simp; omega
 have k98 : (c == 98) = false := by simp; omega
 have k116 : (c == 116) = false := by simp; omega
 go_enter Tryz.func216, Tryz.ntmps216
 go_wp2
 go_ret
 exact ⟨rfl, rfl⟩
theorem st4 (G : Nat) (L : Nat) (d c : Value) (s : ByteArray) (p : Nat) (ch : Int) (a : Addr) (w : World) (hL : Lx w L d c s p) (hs : WfStr s) (hb : ByteAt s p ch) (hc : isNl ch = false) (hb' : ByteAt s (p + 1) 61) (hE : Eof w a) (hL0 : ¬ L = 0)
 (hf : ∀ w, Calls Tryz.prog 216 #[.int .u8 ch] w fun e w' => e = .returned (fv G) ∧ w = w') :
 Calls Tryz.prog 214 #[.pointer (some ⟨L, 0, none⟩)] w fun e w' => e = .returned (.tuple #[fv G, .nilIface]) ∧ Lx w' L d c s (p + 2) ∧ Fr (fun k => k = L) w w' := by
 have HF := Lib.hid hf
 clear hf
 go_enter Tryz.func214, Tryz.ntmps214
 go_wp2_with (go_at_call 119; (with_reducible refine (par_handleType 216 G L d c s p ch a _ hL hs hb hc hb' hE hL0 enters216 HF.out).mono ?_); rintro e w1 ⟨rfl, hx1, hf1⟩)
 go_ret2
 exact ⟨rfl, hx1, hf1⟩
theorem st4_no (L : Nat) (d c : Value) (s : ByteArray) (p : Nat) (ch : Int) (a : Addr) (w : World) (hL : Lx w L d c s p) (hs : WfStr s) (hb : ByteAt s p ch) (hc : isNl ch = false) (hb' : ByteAt s (p + 1) 61) (hE : Eof w a) (hL0 : ¬ L = 0) (h : ch ≤ 96) :
 Calls Tryz.prog 214 #[.pointer (some ⟨L, 0, none⟩)] w fun e w' => (∃ v, e = .returned (.tuple #[.nilFunc, .iface 250 v])) ∧ Fr (fun k => k = L) w w' := by
 go_enter Tryz.func214, Tryz.ntmps214
 go_wp2_with (go_at_call 119; (with_reducible refine (par_handleType_no 216 L d c s p ch a _ hL hs hb hc hb' hE hL0 enters216 (fun w => clo4_no ch w h)).mono ?_); rintro e w1 ⟨⟨v, rfl⟩, hf1⟩)
 go_ret2
 exact ⟨⟨v, rfl⟩, hf1⟩
theorem st4_end (L : Nat) (d c : Value) (s : ByteArray) (a : Addr) (w : World) (hL : Lx w L d c s s.size) (hs : WfStr s) (hE : Eof w a) (hL0 : ¬ L = 0) :
 Calls Tryz.prog 214 #[.pointer (some ⟨L, 0, none⟩)] w fun e w' => e = .returned (.tuple #[.nilFunc, .nilIface]) ∧ Lx w' L d c s s.size ∧ Fr (fun k => k = L) w w' := by
 go_enter Tryz.func214, Tryz.ntmps214
 go_wp2_with (go_at_call 119; (with_reducible refine (par_handleType_end 216 L d c s a _ hL hs hE hL0).mono ?_); rintro e w1 ⟨rfl, hx1, hf1⟩)
 go_ret2
 exact ⟨rfl, hx1, hf1⟩
theorem enters230 : Enters 230 := fun _ _ => by kernel_rfl
theorem enters237 : Enters 237 := fun _ _ => by kernel_rfl
theorem clo5_98 (w : World) : Calls Tryz.prog 237 #[.int .u8 98] w fun e w' => e = .returned (fv 222) ∧ w = w' := by
 go_enter Tryz.func237, Tryz.ntmps237
 go_wp2
 go_ret
 exact ⟨rfl, rfl⟩
theorem clo5_116 (w : World) : Calls Tryz.prog 237 #[.int .u8 116] w fun e w' => e = .returned (fv 223) ∧ w = w' := by
 go_enter Tryz.func237, Tryz.ntmps237
 go_wp2
 go_ret
 exact ⟨rfl, rfl⟩
theorem clo5_no (c : Int) (w : World) (h : c ≤ 96) : Calls Tryz.prog 237 #[.int .u8 c] w fun e w' => e = .returned .nilFunc ∧ w = w' := by
 have k98 : (c == 98) = false := by simp; omega
 have k116 : (c == 116) = false := by simp; omega
 go_enter Tryz.func237, Tryz.ntmps237
 go_wp2
 go_ret
 exact ⟨rfl, rfl⟩
theorem st5 (G : Nat) (L : Nat) (d c : Value) (s : ByteArray) (p : Nat) (ch : Int) (a : Addr) (w : World) (hL : Lx w L d c s p) (hs : WfStr s) (hb : ByteAt s p ch) (hc : isNl ch = false) (hb' : ByteAt s (p + 1) 61) (hE : Eof w a) (hL0 : ¬ L = 0)
 (hf : ∀ w, Calls Tryz.prog 237 #[.int .u8 ch] w fun e w' => e = .returned (fv G) ∧ w = w') :
 Calls Tryz.prog 230 #[.pointer (some ⟨L, 0, none⟩)] w fun e w' => e = .returned (.tuple #[fv G, .nilIface]) ∧ Lx w' L d c s (p + 2) ∧ Fr (fun k => k = L) w w' := by
 have HF := Lib.hid hf
 clear hf
 go_enter Tryz.func230, Tryz.ntmps230
 go_wp2_with (go_at_call 119; (with_reducible refine (par_handleType 237 G L d c s p ch a _ hL hs hb hc hb' hE hL0 enters237 HF.out).mono ?_); rintro e w1 ⟨rfl, hx1, hf1⟩)
 go_ret2
 exact ⟨rfl, hx1, hf1⟩
theorem st5_no (L : Nat) (d c : Value) (s : ByteArray) (p : Nat) (ch : Int) (a : Addr) (w : World) (hL : Lx w L d c s p) (hs : WfStr s) (hb : ByteAt s p ch) (hc : isNl ch = false) (hb' : ByteAt s (p + 1) 61) (hE : Eof w a) (hL0 : ¬ L = 0) (h : ch ≤ 96) :
 Calls Tryz.prog 230 #[.pointer (some ⟨L, 0, none⟩)] w fun e w' => (∃ v, e = .returned (.tuple #[.nilFunc, .iface 250 v])) ∧ Fr (fun k => k = L) w w' := by
 go_enter Tryz.func230, Tryz.ntmps230
 go_wp2_with (go_at_call 119; (with_reducible refine (par_handleType_no 237 L d c s p ch a _ hL hs hb hc hb' hE hL0 enters237 (fun w => clo5_no ch w h)).mono ?_); rintro e w1 ⟨⟨v, rfl⟩, hf1⟩)
 go_ret2
 exact ⟨⟨v, rfl⟩, hf1⟩
theorem st5_end (L : Nat) (d c : Value) (s : ByteArray) (a : Addr) (w : World) (hL : Lx w L d c s s.size) (hs : WfStr s) (hE : Eof w a) (hL0 : ¬ L = 0) :
 Calls Tryz.prog 230 #[.pointer (some ⟨L, 0, none⟩)] w fun e w' => e = .returned (.tuple #[.nilFunc, .nilIface]) ∧ Lx w' L d c s s.size ∧ Fr (fun k => k = L) w w' := by
 go_enter Tryz.func230, Tryz.ntmps230
 go_wp2_with (go_at_call 119; (with_reducible refine (par_handleType_end 237 L d c s a _ hL hs hE hL0).mono ?_); rintro e w1 ⟨rfl, hx1, hf1⟩)
 go_ret2
 exact ⟨rfl, hx1, hf1⟩
theorem enters227 : Enters 227 := fun _ _ => by kernel_rfl
theorem enters235 : Enters 235 := fun _ _ => by kernel_rfl
theorem clo6_112 (w : World) : Calls Tryz.prog 235 #[.int .u8 112] w fun e w' => e = .returned (fv 220) ∧ w = w' := by
 go_enter Tryz.func235, Tryz.ntmps235
 go_wp2
 go_ret
 exact ⟨rfl, rfl⟩
theorem clo6_99 (w : World) : Calls Tryz.prog 235 #[.int .u8 99] w fun e w' => e = .returned (fv 221) ∧ w = w' := by
 go_enter Tryz.func235, Tryz.ntmps235
 go_wp2
 go_ret
 exact ⟨rfl, rfl⟩
theorem clo6_98 (w : World) : Calls Tryz.prog 235 #[.int .u8 98] w fun e w' => e = .returned (fv 222) ∧ w = w' := by
 go_enter Tryz.func235, Tryz.ntmps235
 go_wp2
 go_ret
 exact ⟨rfl, rfl⟩
theorem clo6_116 (w : World) : Calls Tryz.prog 235 #[.int .u8 116] w fun e w' => e = .returned (fv 223) ∧ w = w' := by
 go_enter Tryz.func235, Tryz.ntmps235
 go_wp2
 go_ret
 exact ⟨rfl, rfl⟩
theorem clo6_no (c : Int) (w : World) (h : c ≤ 96) : Calls Tryz.prog 235 #[.int .u8 c] w fun e w' => e = .returned .nilFunc ∧ w = w' := by
 have k112 : (c == 112) = false := by simp; omega
 have k99 : (c == 99) = false := by simp; omega
 have k98 : (c == 98) = false := by simp; omega
 have k116 : (c == 116) = false := by simp; omega
 go_enter Tryz.func235, Tryz.ntmps235
 go_wp2
 go_ret
 exact ⟨rfl, rfl⟩
theorem st6 (G : Nat) (L : Nat) (d c : Value) (s : ByteArray) (p : Nat) (ch : Int) (a : Addr) (w : World) (hL : Lx w L d c s p) (hs : WfStr s) (hb : ByteAt s p ch) (hc : isNl ch = false) (hb' : ByteAt s (p + 1) 61) (hE : Eof w a) (hL0 : ¬ L = 0)
 (hf : ∀ w, Calls Tryz.prog 235 #[.int .u8 ch] w fun e w' => e = .returned (fv G) ∧ w = w') :
 Calls Tryz.prog 227 #[.pointer (some ⟨L, 0, none⟩)] w fun e w' => e = .returned (.tuple #[fv G, .nilIface]) ∧ Lx w' L d c s (p + 2) ∧ Fr (fun k => k = L) w w' := by
 have HF := Lib.hid hf
 clear hf
 go_enter Tryz.func227, Tryz.ntmps227
 go_wp2_with (go_at_call 119; (with_reducible refine (par_handleType 235 G L d c s p ch a _ hL hs hb hc hb' hE hL0 enters235 HF.out).mono ?_); rintro e w1 ⟨rfl, hx1, hf1⟩)
 go_ret2
 exact ⟨rfl, hx1, hf1⟩
theorem st6_no (L : Nat) (d c : Value) (s : ByteArray) (p : Nat) (ch : Int) (a : Addr) (w : World) (hL : Lx w L d c s p) (hs : WfStr s) (hb : ByteAt s p ch) (hc : isNl ch = false) (hb' : ByteAt s (p + 1) 61) (hE : Eof w a) (hL0 : ¬ L = 0) (h : ch ≤ 96) :
 Calls Tryz.prog 227 #[.pointer (some ⟨L, 0, none⟩)] w fun e w' => (∃ v, e = .returned (.tuple #[.nilFunc, .iface 250 v])) ∧ Fr (fun k => k = L) w w' := by
 go_enter Tryz.func227, Tryz.ntmps227
 go_wp2_with (go_at_call 119; (with_reducible refine (par_handleType_no 235 L d c s p ch a _ hL hs hb hc hb' hE hL0 enters235 (fun w => clo6_no ch w h)).mono ?_); rintro e w1 ⟨⟨v, rfl⟩, hf1⟩)
 go_ret2
 exact ⟨⟨v, rfl⟩, hf1⟩
theorem st6_end (L : Nat) (d c : Value) (s : ByteArray) (a : Addr) (w : World) (hL : Lx w L d c s s.size) (hs : WfStr s) (hE : Eof w a) (hL0 : ¬ L = 0) :
 Calls Tryz.prog 227 #[.pointer (some ⟨L, 0, none⟩)] w fun e w' => e = .returned (.tuple #[.nilFunc, .nilIface]) ∧ Lx w' L d c s s.size ∧ Fr (fun k => k = L) w w' := by
 go_enter Tryz.func227, Tryz.ntmps227
 go_wp2_with (go_at_call 119; (with_reducible refine (par_handleType_end 235 L d c s a _ hL hs hE hL0).mono ?_); rintro e w1 ⟨rfl, hx1, hf1⟩)
 go_ret2
 exact ⟨rfl, hx1, hf1⟩
theorem enters224 : Enters 224 := fun _ _ => by kernel_rfl
theorem enters233 : Enters 233 := fun _ _ => by kernel_rfl
theorem clo7_117 (w : World) : Calls Tryz.prog 233 #[.int .u8 117] w fun e w' => e = .returned (fv 218) ∧ w = w' := by
 go_enter Tryz.func233, Tryz.ntmps233
 go_wp2
 go_ret
 exact ⟨rfl, rfl⟩
theorem clo7_101 (w : World) : Calls Tryz.prog 233 #[.int .u8 101] w fun e w' => e = .returned (fv 219) ∧ w = w' := by
 go_enter Tryz.func233, Tryz.ntmps233
 go_wp2
 go_ret
 exact ⟨rfl, rfl⟩
theorem clo7_112 (w : World) : Calls Tryz.prog 233 #[.int .u8 112] w fun e w' => e = .returned (fv 220) ∧ w = w' := by
 go_enter Tryz.func233, Tryz.ntmps233
 go_wp2
 go_ret
 exact ⟨rfl, rfl⟩
theorem clo7_99 (w : World) : Calls Tryz.prog 233 #[.int .u8 99] w fun e w' => e = .returned (fv 221) ∧ w = w' := by
 go_enter Tryz.func233, Tryz.ntmps233
 go_wp2
 go_ret
 exact ⟨rfl, rfl⟩
theorem clo7_98 (w : World) : Calls Tryz.prog 233 #[.int .u8 98] w fun e w' => e = .returned (fv 222) ∧ w = w' := by
 go_enter Tryz.func233, Tryz.ntmps233
 go_wp2
 go_ret
 exact ⟨rfl, rfl⟩
theorem clo7_116 (w : World) : Calls Tryz.prog 233 #[.int .u8 116] w fun e w' => e = .returned (fv 223) ∧ w = w' := by
 go_enter Tryz.func233, Tryz.ntmps233
 go_wp2
 go_ret
 exact ⟨rfl, rfl⟩
theorem clo7_no (c : Int) (w : World) (h : c ≤ 96) : Calls Tryz.prog 233 #[.int .u8 c] w fun e w' => e = .returned .nilFunc ∧ w = w' := by
 have k117 : (c == 117) = false := by simp; omega
 have k101 : (c == 101) = false := by simp; omega
 have k112 : (c == 112) = false := by simp; omega
 have k99 : (c == 99) = false := by simp; omega
 have k98 : (c == 98) = false := by simp; omega
 have k116 : (c == 116) = false := by simp; omega
 go_enter Tryz.func233, Tryz.ntmps233
 go_wp2
 go_ret
 exact ⟨rfl, rfl⟩
theorem st7 (G : Nat) (L : Nat) (d c : Value) (s : ByteArray) (p : Nat) (ch : Int) (a : Addr) (w : World) (hL : Lx w L d c s p) (hs : WfStr s) (hb : ByteAt s p ch) (hc : isNl ch = false) (hb' : ByteAt s (p + 1) 61) (hE : Eof w a) (hL0 : ¬ L = 0)
 (hf : ∀ w, Calls Tryz.prog 233 #[.int .u8 ch] w fun e w' => e = .returned (fv G) ∧ w = w') :
 Calls Tryz.prog 224 #[.pointer (some ⟨L, 0, none⟩)] w fun e w' => e = .returned (.tuple #[fv G, .nilIface]) ∧ Lx w' L d c s (p + 2) ∧ Fr (fun k => k = L) w w' := by
 have HF := Lib.hid hf
 clear hf
 go_enter Tryz.func224, Tryz.ntmps224
 go_wp2_with (go_at_call 119; (with_reducible refine (par_handleType 233 G L d c s p ch a _ hL hs hb hc hb' hE hL0 enters233 HF.out).mono ?_); rintro e w1 ⟨rfl, hx1, hf1⟩)
 go_ret2
 exact ⟨rfl, hx1, hf1⟩
theorem st7_no (L : Nat) (d c : Value) (s : ByteArray) (p : Nat) (ch : Int) (a : Addr) (w : World) (hL : Lx w L d c s p) (hs : WfStr s) (hb : ByteAt s p ch) (hc : isNl ch = false) (hb' : ByteAt s (p + 1) 61) (hE : Eof w a) (hL0 : ¬ L = 0) (h : ch ≤ 96) :
 Calls Tryz.prog 224 #[.pointer (some ⟨L, 0, none⟩)] w fun e w' => (∃ v, e = .returned (.tuple #[.nilFunc, .iface 250 v])) ∧ Fr (fun k => k = L) w w' := by
 go_enter Tryz.func224, Tryz.ntmps224
 go_wp2_with (go_at_call 119; (with_reducible refine (par_handleType_no 233 L d c s p ch a _ hL hs hb hc hb' hE hL0 enters233 (fun w => clo7_no ch w h)).mono ?_); rintro e w1 ⟨⟨v, rfl⟩, hf1⟩)
 go_ret2
 exact ⟨⟨v, rfl⟩, hf1⟩
theorem st7_end (L : Nat) (d c : Value) (s : ByteArray) (a : Addr) (w : World) (hL : Lx w L d c s s.size) (hs : WfStr s) (hE : Eof w a) (hL0 : ¬ L = 0) :
 Calls Tryz.prog 224 #[.pointer (some ⟨L, 0, none⟩)] w fun e w' => e = .returned (.tuple #[.nilFunc, .nilIface]) ∧ Lx w' L d c s s.size ∧ Fr (fun k => k = L) w w' := by
 go_enter Tryz.func224, Tryz.ntmps224
 go_wp2_with (go_at_call 119; (with_reducible refine (par_handleType_end 233 L d c s a _ hL hs hE hL0).mono ?_); rintro e w1 ⟨rfl, hx1, hf1⟩)
 go_ret2
 exact ⟨rfl, hx1, hf1⟩
theorem enters228 : Enters 228 := fun _ _ => by kernel_rfl
theorem enters236 : Enters 236 := fun _ _ => by kernel_rfl
theorem clo8_99 (w : World) : Calls Tryz.prog 236 #[.int .u8 99] w fun e w' => e = .returned (fv 221) ∧ w = w' := by
 go_enter Tryz.func236, Tryz.ntmps236
 go_wp2
 go_ret
 exact ⟨rfl, rfl⟩
theorem clo8_98 (w : World) : Calls Tryz.prog 236 #[.int .u8 98] w fun e w' => e = .returned (fv 222) ∧ w = w' := by
 go_enter Tryz.func236, Tryz.ntmps236
 go_wp2
 go_ret
 exact ⟨rfl, rfl⟩
theorem clo8_116 (w : World) : Calls Tryz.prog 236 #[.int .u8 116] w fun e w' => e = .returned (fv 223) ∧ w = w' := by
 go_enter Tryz.func236, Tryz.ntmps236
 go_wp2
 go_ret
 exact ⟨rfl, rfl⟩
theorem clo8_no (c : Int) (w : World) (h : c ≤ 96) : Calls Tryz.prog 236 #[.int .u8 c] w fun e w' => e = .returned .nilFunc ∧ w = w' := by
 have k99 : (c == 99) = false := by simp; omega
 have k98 : (c == 98) = false := by simp; omega
 have k116 : (c == 116) = false := by simp; omega
 go_enter Tryz.func236, Tryz.ntmps236
 go_wp2
 go_ret
 exact ⟨rfl, rfl⟩
theorem st8 (G : Nat) (L : Nat) (d c : Value) (s : ByteArray) (p : Nat) (ch : Int) (a : Addr) (w : World) (hL : Lx w L d c s p) (hs : WfStr s) (hb : ByteAt s p ch) (hc : isNl ch = false) (hb' : ByteAt s (p + 1) 61) (hE : Eof w a) (hL0 : ¬ L = 0)
 (hf : ∀ w, Calls Tryz.prog 236 #[.int .u8 ch] w fun e w' => e = .returned (fv G) ∧ w = w') :
 Calls Tryz.prog 228 #[.pointer (some ⟨L, 0, none⟩)] w fun e w' => e = .returned (.tuple #[fv G, .nilIface]) ∧ Lx w' L d c s (p + 2) ∧ Fr (fun k => k = L) w w' := by
 have HF := Lib.hid hf
 clear hf
 go_enter Tryz.func228, Tryz.ntmps228
 go_wp2_with (go_at_call 119; (with_reducible refine (par_handleType 236 G L d c s p ch a _ hL hs hb hc hb' hE hL0 enters236 HF.out).mono ?_); rintro e w1 ⟨rfl, hx1, hf1⟩)
 go_ret2
 exact ⟨rfl, hx1, hf1⟩
theorem st8_no (L : Nat) (d c : Value) (s : ByteArray) (p : Nat) (ch : Int) (a : Addr) (w : World) (hL : Lx w L d c s p) (hs : WfStr s) (hb : ByteAt s p ch) (hc : isNl ch = false) (hb' : ByteAt s (p + 1) 61) (hE : Eof w a) (hL0 : ¬ L = 0) (h : ch ≤ 96) :
 Calls Tryz.prog 228 #[.pointer (some ⟨L, 0, none⟩)] w fun e w' => (∃ v, e = .returned (.tuple #[.nilFunc, .iface 250 v])) ∧ Fr (fun k => k = L) w w' := by
 go_enter Tryz.func228, Tryz.ntmps228
 go_wp2_with (go_at_call 119; (with_reducible refine (par_handleType_no 236 L d c s p ch a _ hL hs hb hc hb' hE hL0 enters236 (fun w => clo8_no ch w h)).mono ?_); rintro e w1 ⟨⟨v, rfl⟩, hf1⟩)
 go_ret2
 exact ⟨⟨v, rfl⟩, hf1⟩
theorem st8_end (L : Nat) (d c : Value) (s : ByteArray) (a : Addr) (w : World) (hL : Lx w L d c s s.size) (hs : WfStr s) (hE : Eof w a) (hL0 : ¬ L = 0) :
 Calls Tryz.prog 228 #[.pointer (some ⟨L, 0, none⟩)] w fun e w' => e = .returned (.tuple #[.nilFunc, .nilIface]) ∧ Lx w' L d c s s.size ∧ Fr (fun k => k = L) w w' := by
 go_enter Tryz.func228, Tryz.ntmps228
 go_wp2_with (go_at_call 119; (with_reducible refine (par_handleType_end 236 L d c s a _ hL hs hE hL0).mono ?_); rintro e w1 ⟨rfl, hx1, hf1⟩)
 go_ret2
 exact ⟨rfl, hx1, hf1⟩
theorem enters232 : Enters 232 := fun _ _ => by kernel_rfl
theorem enters241 : Enters 241 := fun _ _ => by kernel_rfl
theorem clo9_116 (w : World) : Calls Tryz.prog 241 #[.int .u8 116] w fun e w' => e = .returned (fv 223) ∧ w = w' := by
 go_enter Tryz.func241, Tryz.ntmps241
 go_wp2
 go_ret
 exact ⟨rfl, rfl⟩
theorem clo9_114 (w : World) : Calls Tryz.prog 241 #[.int .u8 114] w fun e w' => e = .returned (fv 245) ∧ w = w' := by
 go_enter Tryz.func241, Tryz.ntmps241
 go_wp2
 go_ret
 exact ⟨rfl, rfl⟩
theorem clo9_122 (w : World) : Calls Tryz.prog 241 #[.int .u8 122] w fun e w' => e = .returned (fv 242) ∧ w = w' := by
 go_enter Tryz.func241, Tryz.ntmps241
 go_wp2
 go_ret
 exact ⟨rfl, rfl⟩
theorem clo9_107 (w : World) : Calls Tryz.prog 241 #[.int .u8 107] w fun e w' => e = .returned (fv 243) ∧ w = w' := by
 go_enter Tryz.func241, Tryz.ntmps241
 go_wp2
 go_ret
 exact ⟨rfl, rfl⟩
theorem clo9_97 (w : World) : Calls Tryz.prog 241 #[.int .u8 97] w fun e w' => e = .returned (fv 244) ∧ w = w' := by
 go_enter Tryz.func241, Tryz.ntmps241
 go_wp2
 go_ret
 exact ⟨rfl, rfl⟩
theorem clo9_109 (w : World) : Calls Tryz.prog 241 #[.int .u8 109] w fun e w' => e = .returned (fv 246) ∧ w = w' := by
 go_enter Tryz.func241, Tryz.ntmps241
 go_wp2
 go_ret
 exact ⟨rfl, rfl⟩
theorem clo9_no (c : Int) (w : World) (h : c ≤ 96) : Calls Tryz.prog 241 #[.int .u8 c] w fun e w' => e = .returned .nilFunc ∧ w = w' := by
 have k116 : (c == 116) = false := by simp; omega
 have k114 : (c == 114) = false := by simp; omega
 have k122 : (c == 122) = false := by simp; omega
 have k107 : (c == 107) = false := by simp; omega
 have k97 : (c == 97) = false := by simp; omega
 have k109 : (c == 109) = false := by simp; omega
 go_enter Tryz.func241, Tryz.ntmps241
 go_wp2
 go_ret
 exact ⟨rfl, rfl⟩
theorem st9 (G : Nat) (L : Nat) (d c : Value) (s : ByteArray) (p : Nat) (ch : Int) (a : Addr) (w : World) (hL : Lx w L d c s p) (hs : WfStr s) (hb : ByteAt s p ch) (hc : isNl ch = false) (hb' : ByteAt s (p + 1) 61) (hE : Eof w a) (hL0 : ¬ L = 0)
 (hf : ∀ w, Calls Tryz.prog 241 #[.int .u8 ch] w fun e w' => e = .returned (fv G) ∧ w = w') :
 Calls Tryz.prog 232 #[.pointer (some ⟨L, 0, none⟩)] w fun e w' => e = .returned (.tuple #[fv G, .nilIface]) ∧ Lx w' L d c s (p + 2) ∧ Fr (fun k => k = L) w w' := by
 have HF := Lib.hid hf
 clear hf
 go_enter Tryz.func232, Tryz.ntmps232
 go_wp2_with (go_at_call 119; (with_reducible refine (par_handleType 241 G L d c s p ch a _ hL hs hb hc hb' hE hL0 enters241 HF.out).mono ?_); rintro e w1 ⟨rfl, hx1, hf1⟩)
 go_ret2
 exact ⟨rfl, hx1, hf1⟩
theorem st9_no (L : Nat) (d c : Value) (s : ByteArray) (p : Nat) (ch : Int) (a : Addr) (w : World) (hL : Lx w L d c s p) (hs : WfStr s) (hb : ByteAt s p ch) (hc : isNl ch = false) (hb' : ByteAt s (p + 1) 61) (hE : Eof w a) (hL0 : ¬ L = 0) (h : ch ≤ 96) :
 Calls Tryz.prog 232 #[.pointer (some ⟨L, 0, none⟩)] w fun e w' => (∃ v, e = .returned (.tuple #[.nilFunc, .iface 250 v])) ∧ Fr (fun k => k = L) w w' := by
 go_enter Tryz.func232, Tryz.ntmps232
 go_wp2_with (go_at_call 119; (with_reducible refine (par_handleType_no 241 L d c s p ch a _ hL hs hb hc hb' hE hL0 enters241 (fun w => clo9_no ch w h)).mono ?_); rintro e w1 ⟨⟨v, rfl⟩, hf1⟩)
 go_ret2
 exact ⟨⟨v, rfl⟩, hf1⟩
theorem st9_end (L : Nat) (d c : Value) (s : ByteArray) (a : Addr) (w : World) (hL : Lx w L d c s s.size) (hs : WfStr s) (hE : Eof w a) (hL0 : ¬ L = 0) :
 Calls Tryz.prog 232 #[.pointer (some ⟨L, 0, none⟩)] w fun e w' => e = .returned (.tuple #[.nilFunc, .nilIface]) ∧ Lx w' L d c s s.size ∧ Fr (fun k => k = L) w w' := by
 go_enter Tryz.func232, Tryz.ntmps232
 go_wp2_with (go_at_call 119; (with_reducible refine (par_handleType_end 241 L d c s a _ hL hs hE hL0).mono ?_); rintro e w1 ⟨rfl, hx1, hf1⟩)
 go_ret2
 exact ⟨rfl, hx1, hf1⟩
theorem enters226 : Enters 226 := fun _ _ => by kernel_rfl
theorem enters234 : Enters 234 := fun _ _ => by kernel_rfl
theorem clo10_101 (w : World) : Calls Tryz.prog 234 #[.int .u8 101] w fun e w' => e = .returned (fv 219) ∧ w = w' := by
 go_enter Tryz.func234, Tryz.ntmps234
 go_wp2
 go_ret
 exact ⟨rfl, rfl⟩
theorem clo10_112 (w : World) : Calls Tryz.prog 234 #[.int .u8 112] w fun e w' => e = .returned (fv 220) ∧ w = w' := by
 go_enter Tryz.func234, Tryz.ntmps234
 go_wp2
 go_ret
 exact ⟨rfl, rfl⟩
theorem clo10_99 (w : World) : Calls Tryz.prog 234 #[.int .u8 99] w fun e w' => e = .returned (fv 221) ∧ w = w' := by
 go_enter Tryz.func234, Tryz.ntmps234
 go_wp2
 go_ret
 exact ⟨rfl, rfl⟩
theorem clo10_98 (w : World) : Calls Tryz.prog 234 #[.int .u8 98] w fun e w' => e = .returned (fv 222) ∧ w = w' := by
 go_enter Tryz.func234, Tryz.ntmps234
 go_wp2
 go_ret
 exact ⟨rfl, rfl⟩
theorem clo10_116 (w : World) : Calls Tryz.prog 234 #[.int .u8 116] w fun e w' => e = .returned (fv 223) ∧ w = w' := by
 go_enter Tryz.func234, Tryz.ntmps234
 go_wp2
 go_ret
 exact ⟨rfl, rfl⟩
theorem clo10_no (c : Int) (w : World) (h : c ≤ 96) : Calls Tryz.prog 234 #[.int .u8 c] w fun e w' => e = .returned .nilFunc ∧ w = w' := by
 have k101 : (c == 101) = false := by simp; omega
 have k112 : (c == 112) = false := by simp; omega
 have k99 : (c == 99) = false := by simp; omega
 have k98 : (c == 98) = false := by simp; omega
 have k116 : (c == 116) = false := by simp; omega
 go_enter Tryz.func234, Tryz.ntmps234
 go_wp2
 go_ret
 exact ⟨rfl, rfl⟩
theorem st10 (G : Nat) (L : Nat) (d c : Value) (s : ByteArray) (p : Nat) (ch : Int) (a : Addr) (w : World) (hL : Lx w L d c s p) (hs : WfStr s) (hb : ByteAt s p ch) (hc : isNl ch = false) (hb' : ByteAt s (p + 1) 61) (hE : Eof w a) (hL0 : ¬ L = 0)
 (hf : ∀ w, Calls Tryz.prog 234 #[.int .u8 ch] w fun e w' => e = .returned (fv G) ∧ w = w') :
 Calls Tryz.prog 226 #[.pointer (some ⟨L, 0, none⟩)] w fun e w' => e = .returned (.tuple #[fv G, .nilIface]) ∧ Lx w' L d c s (p + 2) ∧ Fr (fun k => k = L) w w' := by
 have HF := Lib.hid hf
 clear hf
 go_enter Tryz.func226, Tryz.ntmps226
 go_wp2_with (go_at_call 119; (with_reducible refine (par_handleType 234 G L d c s p ch a _ hL hs hb hc hb' hE hL0 enters234 HF.out).mono ?_); rintro e w1 ⟨rfl, hx1, hf1⟩)
 go_ret2
 exact ⟨rfl, hx1, hf1⟩
theorem st10_no (L : Nat) (d c : Value) (s : ByteArray) (p : Nat) (ch : Int) (a : Addr) (w : World) (hL : Lx w L d c s p) (hs : WfStr s) (hb : ByteAt s p ch) (hc : isNl ch = false) (hb' : ByteAt s (p + 1) 61) (hE : Eof w a) (hL0 : ¬ L = 0) (h : ch ≤ 96) :
 Calls Tryz.prog 226 #[.pointer (some ⟨L, 0, none⟩)] w fun e w' => (∃ v, e = .returned (.tuple #[.nilFunc, .iface 250 v])) ∧ Fr (fun k => k = L) w w' := by
 go_enter Tryz.func226, Tryz.ntmps226
 go_wp2_with (go_at_call 119; (with_reducible refine (par_handleType_no 234 L d c s p ch a _ hL hs hb hc hb' hE hL0 enters234 (fun w => clo10_no ch w h)).mono ?_); rintro e w1 ⟨⟨v, rfl⟩, hf1⟩)
 go_ret2
 exact ⟨⟨v, rfl⟩, hf1⟩
theorem st10_end (L : Nat) (d c : Value) (s : ByteArray) (a : Addr) (w : World) (hL : Lx w L d c s s.size) (hs : WfStr s) (hE : Eof w a) (hL0 : ¬ L = 0) :
 Calls Tryz.prog 226 #[.pointer (some ⟨L, 0, none⟩)] w fun e w' => e = .returned (.tuple #[.nilFunc, .nilIface]) ∧ Lx w' L d c s s.size ∧ Fr (fun k => k = L) w w' := by
 go_enter Tryz.func226, Tryz.ntmps226
 go_wp2_with (go_at_call 119; (with_reducible refine (par_handleType_end 234 L d c s a _ hL hs hE hL0).mono ?_); rintro e w1 ⟨rfl, hx1, hf1⟩)
 go_ret2
 exact ⟨rfl, hx1, hf1⟩
theorem enters253 : Enters 253 := fun _ _ => by kernel_rfl
theorem enters268 : Enters 268 := fun _ _ => by kernel_rfl
theorem clo11_97 (w : World) : Calls Tryz.prog 268 #[.int .u8 97] w fun e w' => e = .returned (fv 244) ∧ w = w' := by
 go_enter Tryz.func268, Tryz.ntmps268
 go_wp2
 go_ret
 exact ⟨rfl, rfl⟩
theorem clo11_109 (w : World) : Calls Tryz.prog 268 #[.int .u8 109] w fun e w' => e = .returned (fv 246) ∧ w = w' := by
 go_enter Tryz.func268, Tryz.ntmps268
 go_wp2
 go_ret
 exact ⟨rfl, rfl⟩
theorem clo11_no (c : Int) (w : World) (h : c ≤ 96) : Calls Tryz.prog 268 #[.int .u8 c] w fun e w' => e = .returned .nilFunc ∧ w = w' := by
 have k97 : (c == 97) = false := by simp; omega
 have k109 : (c == 109) = false := by simp; omega
 go_enter Tryz.func268, Tryz.ntmps268
 go_wp2
 go_ret
 exact ⟨rfl, rfl⟩
theorem st11 (G : Nat) (L : Nat) (d c : Value) (s : ByteArray) (p : Nat) (ch : Int) (a : Addr) (w : World) (hL : Lx w L d c s p) (hs : WfStr s) (hb : ByteAt s p ch) (hc : isNl ch = false) (hb' : ByteAt s (p + 1) 61) (hE : Eof w a) (hL0 : ¬ L = 0)
 (hf : ∀ w, Calls Tryz.prog 268 #[.int .u8 ch] w fun e w' => e = .returned (fv G) ∧ w = w') :
 Calls Tryz.prog 253 #[.pointer (some ⟨L, 0, none⟩)] w fun e w' => e = .returned (.tuple #[fv G, .nilIface]) ∧ Lx w' L d c s (p + 2) ∧ Fr (fun k => k = L) w w' := by
 have HF := Lib.hid hf
 clear hf
 go_enter Tryz.func253, Tryz.ntmps253
 go_wp2_with (go_at_call 119; (with_reducible refine (par_handleType 268 G L d c s p ch a _ hL hs hb hc hb' hE hL0 enters268 HF.out).mono ?_); rintro e w1 ⟨rfl, hx1, hf1⟩)
 go_ret2
 exact ⟨rfl, hx1, hf1⟩
theorem st11_no (L : Nat) (d c : Value) (s : ByteArray) (p : Nat) (ch : Int) (a : Addr) (w : World) (hL : Lx w L d c s p) (hs : WfStr s) (hb : ByteAt s p ch) (hc : isNl ch = false) (hb' : ByteAt s (p + 1) 61) (hE : Eof w a) (hL0 : ¬ L = 0) (h : ch ≤ 96) :
 Calls Tryz.prog 253 #[.pointer (some ⟨L, 0, none⟩)] w fun e w' => (∃ v, e = .returned (.tuple #[.nilFunc, .iface 250 v])) ∧ Fr (fun k => k = L) w w' := by
 go_enter Tryz.func253, Tryz.ntmps253
 go_wp2_with (go_at_call 119; (with_reducible refine (par_handleType_no 268 L d c s p ch a _ hL hs hb hc hb' hE hL0 enters268 (fun w => clo11_no ch w h)).mono ?_); rintro e w1 ⟨⟨v, rfl⟩, hf1⟩)
 go_ret2
 exact ⟨⟨v, rfl⟩, hf1⟩
theorem st11_end (L : Nat) (d c : Value) (s : ByteArray) (a : Addr) (w : World) (hL : Lx w L d c s s.size) (hs : WfStr s) (hE : Eof w a) (hL0 : ¬ L = 0) :
 Calls Tryz.prog 253 #[.pointer (some ⟨L, 0, none⟩)] w fun e w' => e = .returned (.tuple #[.nilFunc, .nilIface]) ∧ Lx w' L d c s s.size ∧ Fr (fun k => k = L) w w' := by
 go_enter Tryz.func253, Tryz.ntmps253
 go_wp2_with (go_at_call 119; (with_reducible refine (par_handleType_end 268 L d c s a _ hL hs hE hL0).mono ?_); rintro e w1 ⟨rfl, hx1, hf1⟩)
 go_ret2
 exact ⟨rfl, hx1, hf1⟩
theorem enters258 : Enters 258 := fun _ _ => by kernel_rfl
theorem enters270 : Enters 270 := fun _ _ => by kernel_rfl
theorem clo12_109 (w : World) : Calls Tryz.prog 270 #[.int .u8 109] w fun e w' => e = .returned (fv 246) ∧ w = w' := by
 go_enter Tryz.func270, Tryz.ntmps270
 go_wp2
 go_ret
 exact ⟨rfl, rfl⟩
theorem clo12_105 (w : World) : Calls Tryz.prog 270 #[.int .u8 105] w fun e w' => e = .returned (fv 275) ∧ w = w' := by
 go_enter Tryz.func270, Tryz.ntmps270
 go_wp2
 go_ret
 exact ⟨rfl, rfl⟩
theorem clo12_99 (w : World) : Calls Tryz.prog 270 #[.int .u8 99] w fun e w' => e = .returned (fv 274) ∧ w = w' := by
 go_enter Tryz.func270, Tryz.ntmps270
 go_wp2
 go_ret
 exact ⟨rfl, rfl⟩
theorem clo12_98 (w : World) : Calls Tryz.prog 270 #[.int .u8 98] w fun e w' => e = .returned (fv 273) ∧ w = w' := by
 go_enter Tryz.func270, Tryz.ntmps270
 go_wp2
 go_ret
 exact ⟨rfl, rfl⟩
theorem clo12_107 (w : World) : Calls Tryz.prog 270 #[.int .u8 107] w fun e w' => e = .returned (fv 272) ∧ w = w' := by
 go_enter Tryz.func270, Tryz.ntmps270
 go_wp2
 go_ret
 exact ⟨rfl, rfl⟩
theorem clo12_97 (w : World) : Calls Tryz.prog 270 #[.int .u8 97] w fun e w' => e = .returned (fv 271) ∧ w = w' := by
 go_enter Tryz.func270, Tryz.ntmps270
 go_wp2
 go_ret
 exact ⟨rfl, rfl⟩
theorem clo12_no (c : Int) (w : World) (h : c ≤ 96) : Calls Tryz.prog 270 #[.int .u8 c] w fun e w' => e = .returned .nilFunc ∧ w = w' := by
 have k109 : (c == 109) = false := by simp; omega
 have k105 : (c == 105) = false := by simp; omega
 have k99 : (c == 99) = false := by simp; omega
 have k98 : (c == 98) = false := by simp; omega
 have k107 : (c == 107) = false := by simp; omega
 have k97 : (c == 97) = false := by simp; omega
 go_enter Tryz.func270, Tryz.ntmps270
 go_wp2
 go_ret
 exact ⟨rfl, rfl⟩
theorem st12 (G : Nat) (L : Nat) (d c : Value) (s : ByteArray) (p : Nat) (ch : Int) (a : Addr) (w : World) (hL : Lx w L d c s p) (hs : WfStr s) (hb : ByteAt s p ch) (hc : isNl ch = false) (hb' : ByteAt s (p + 1) 61) (hE : Eof w a) (hL0 : ¬ L = 0)
 (hf : ∀ w, Calls Tryz.prog 270 #[.int .u8 ch] w fun e w' => e = .returned (fv G) ∧ w = w') :
 Calls Tryz.prog 258 #[.pointer (some ⟨L, 0, none⟩)] w fun e w' => e = .returned (.tuple #[fv G, .nilIface]) ∧ Lx w' L d c s (p + 2) ∧ Fr (fun k => k = L) w w' := by
 have HF := Lib.hid hf
 clear hf
 go_enter Tryz.func258, Tryz.ntmps258
 go_wp2_with (go_at_call 119; (with_reducible refine (par_handleType 270 G L d c s p ch a _ hL hs hb hc hb' hE hL0 enters270 HF.out).mono ?_); rintro e w1 ⟨rfl, hx1, hf1⟩)
 go_ret2
 exact ⟨rfl, hx1, hf1⟩
theorem st12_no (L : Nat) (d c : Value) (s : ByteArray) (p : Nat) (ch : Int) (a : Addr) (w : World) (hL : Lx w L d c s p) (hs : WfStr s) (hb : ByteAt s p ch) (hc : isNl ch = false) (hb' : ByteAt s (p + 1) 61) (hE : Eof w a) (hL0 : ¬ L = 0) (h : ch ≤ 96) :
 Calls Tryz.prog 258 #[.pointer (some ⟨L, 0, none⟩)] w fun e w' => (∃ v, e = .returned (.tuple #[.nilFunc, .iface 250 v])) ∧ Fr (fun k => k = L) w w' := by
 go_enter Tryz.func258, Tryz.ntmps258
 go_wp2_with (go_at_call 119; (with_reducible refine (par_handleType_no 270 L d c s p ch a _ hL hs hb hc hb' hE hL0 enters270 (fun w => clo12_no ch w h)).mono ?_); rintro e w1 ⟨⟨v, rfl⟩, hf1⟩)
 go_ret2
 exact ⟨⟨v, rfl⟩, hf1⟩
theorem st12_end (L : Nat) (d c : Value) (s : ByteArray) (a : Addr) (w : World) (hL : Lx w L d c s s.size) (hs : WfStr s) (hE : Eof w a) (hL0 : ¬ L = 0) :
 Calls Tryz.prog 258 #[.pointer (some ⟨L, 0, none⟩)] w fun e w' => e = .returned (.tuple #[.nilFunc, .nilIface]) ∧ Lx w' L d c s s.size ∧ Fr (fun k => k = L) w w' := by
 go_enter Tryz.func258, Tryz.ntmps258
 go_wp2_with (go_at_call 119; (with_reducible refine (par_handleType_end 270 L d c s a _ hL hs hE hL0).mono ?_); rintro e w1 ⟨rfl, hx1, hf1⟩)
 go_ret2
 exact ⟨rfl, hx1, hf1⟩
theorem enters252 : Enters 252 := fun _ _ => by kernel_rfl
theorem enters267 : Enters 267 := fun _ _ => by kernel_rfl
theorem clo13_107 (w : World) : Calls Tryz.prog 267 #[.int .u8 107] w fun e w' => e = .returned (fv 243) ∧ w = w' := by
 go_enter Tryz.func267, Tryz.ntmps267
 go_wp2
 go_ret
 exact ⟨rfl, rfl⟩
theorem clo13_97 (w : World) : Calls Tryz.prog 267 #[.int .u8 97] w fun e w' => e = .returned (fv 244) ∧ w = w' := by
 go_enter Tryz.func267, Tryz.ntmps267
 go_wp2
 go_ret
 exact ⟨rfl, rfl⟩
theorem clo13_109 (w : World) : Calls Tryz.prog 267 #[.int .u8 109] w fun e w' => e = .returned (fv 246) ∧ w = w' := by
 go_enter Tryz.func267, Tryz.ntmps267
 go_wp2
 go_ret
 exact ⟨rfl, rfl⟩
theorem clo13_no (c : Int) (w : World) (h : c ≤ 96) : Calls Tryz.prog 267 #[.int .u8 c] w fun e w' => e = .returned .nilFunc ∧ w = w' := by
 have k107 : (c == 107) = false := by simp; omega
 have k97 : (c == 97) = false := by simp; omega
 have k109 : (c == 109) = false := by simp; omega
 go_enter Tryz.func267, Tryz.ntmps267
 go_wp2
 go_ret
 exact ⟨rfl, rfl⟩
theorem st13 (G : Nat) (L : Nat) (d c : Value) (s : ByteArray) (p : Nat) (ch : Int) (a : Addr) (w : World) (hL : Lx w L d c s p) (hs : WfStr s) (hb : ByteAt s p ch) (hc : isNl ch = false) (hb' : ByteAt s (p + 1) 61) (hE : Eof w a) (hL0 : ¬ L = 0)
 (hf : ∀ w, Calls Tryz.prog 267 #[.int .u8 ch] w fun e w' => e = .returned (fv G) ∧ w = w') :
 Calls Tryz.prog 252 #[.pointer (some ⟨L, 0, none⟩)] w fun e w' => e = .returned (.tuple #[fv G, .nilIface]) ∧ Lx w' L d c s (p + 2) ∧ Fr (fun k => k = L) w w' := by
 have HF := Lib.hid hf
 clear hf
 go_enter Tryz.func252, Tryz.ntmps252
 go_wp2_with (go_at_call 119; (with_reducible refine (par_handleType 267 G L d c s p ch a _ hL hs hb hc hb' hE hL0 enters267 HF.out).mono ?_); rintro e w1 ⟨rfl, hx1, hf1⟩)
 go_ret2
 exact ⟨rfl, hx1, hf1⟩
theorem st13_no (L : Nat) (d c : Value) (s : ByteArray) (p : Nat) (ch : Int) (a : Addr) (w : World) (hL : Lx w L d c s p) (hs : WfStr s) (hb : ByteAt s p ch) (hc : isNl ch = false) (hb' : ByteAt s (p + 1) 61) (hE : Eof w a) (hL0 : ¬ L = 0) (h : ch ≤ 96) :
 Calls Tryz.prog 252 #[.pointer (some ⟨L, 0, none⟩)] w fun e w' => (∃ v, e = .returned (.tuple #[.nilFunc, .iface 250 v])) ∧ Fr (fun k => k = L) w w' := by
 go_enter Tryz.func252, Tryz.ntmps252
 go_wp2_with (go_at_call 119; (with_reducible refine (par_handleType_no 267 L d c s p ch a _ hL hs hb hc hb' hE hL0 enters267 (fun w => clo13_no ch w h)).mono ?_); rintro e w1 ⟨⟨v, rfl⟩, hf1⟩)
 go_ret2
 exact ⟨⟨v, rfl⟩, hf1⟩
theorem st13_end (L : Nat) (d c : Value) (s : ByteArray) (a : Addr) (w : World) (hL : Lx w L d c s s.size) (hs : WfStr s) (hE : Eof w a) (hL0 : ¬ L = 0) :
 Calls Tryz.prog 252 #[.pointer (some ⟨L, 0, none⟩)] w fun e w' => e = .returned (.tuple #[.nilFunc, .nilIface]) ∧ Lx w' L d c s s.size ∧ Fr (fun k => k = L) w w' := by
 go_enter Tryz.func252, Tryz.ntmps252
 go_wp2_with (go_at_call 119; (with_reducible refine (par_handleType_end 267 L d c s a _ hL hs hE hL0).mono ?_); rintro e w1 ⟨rfl, hx1, hf1⟩)
 go_ret2
 exact ⟨rfl, hx1, hf1⟩
theorem enters281 : Enters 281 := fun _ _ => by kernel_rfl
theorem enters285 : Enters 285 := fun _ _ => by kernel_rfl
theorem clo14_109 (w : World) : Calls Tryz.prog 285 #[.int .u8 109] w fun e w' => e = .returned (fv 246) ∧ w = w' := by
 go_enter Tryz.func285, Tryz.ntmps285
 go_wp2
 go_ret
 exact ⟨rfl, rfl⟩
theorem clo14_105 (w : World) : Calls Tryz.prog 285 #[.int .u8 105] w fun e w' => e = .returned (fv 275) ∧ w = w' := by
 go_enter Tryz.func285, Tryz.ntmps285
 go_wp2
 go_ret
 exact ⟨rfl, rfl⟩
theorem clo14_99 (w : World) : Calls Tryz.prog 285 #[.int .u8 99] w fun e w' => e = .returned (fv 274) ∧ w = w' := by
 go_enter Tryz.func285, Tryz.ntmps285
 go_wp2
 go_ret
 exact ⟨rfl, rfl⟩
theorem clo14_98 (w : World) : Calls Tryz.prog 285 #[.int .u8 98] w fun e w' => e = .returned (fv 273) ∧ w = w' := by
 go_enter Tryz.func285, Tryz.ntmps285
 go_wp2
 go_ret
 exact ⟨rfl, rfl⟩
theorem clo14_107 (w : World) : Calls Tryz.prog 285 #[.int .u8 107] w fun e w' => e = .returned (fv 272) ∧ w = w' := by
 go_enter Tryz.func285, Tryz.ntmps285
 go_wp2
 go_ret
 exact ⟨rfl, rfl⟩
theorem clo14_97 (w : World) : Calls Tryz.prog 285 #[.int .u8 97] w fun e w' => e = .returned (fv 271) ∧ w = w' := by
 go_enter Tryz.func285, Tryz.ntmps285
 go_wp2
 go_ret
 exact ⟨rfl, rfl⟩
theorem clo14_no (c : Int) (w : World) (h : c ≤ 96) : Calls Tryz.prog 285 #[.int .u8 c] w fun e w' => e = .returned .nilFunc ∧ w = w' := by
 have k109 : (c == 109) = false := by simp; omega
 have k105 : (c == 105) = false := by simp; omega
 have k99 : (c == 99) = false := by simp; omega
 have k98 : (c == 98) = false := by simp; omega
 have k107 : (c == 107) = false := by simp; omega
 have k97 : (c == 97) = false := by simp; omega
 go_enter Tryz.func285, Tryz.ntmps285
 go_wp2
 go_ret
 exact ⟨rfl, rfl⟩
theorem st14 (G : Nat) (L : Nat) (d c : Value) (s : ByteArray) (p : Nat) (ch : Int) (a : Addr) (w : World) (hL : Lx w L d c s p) (hs : WfStr s) (hb : ByteAt s p ch) (hc : isNl ch = false) (hb' : ByteAt s (p + 1) 61) (hE : Eof w a) (hL0 : ¬ L = 0)
 (hf : ∀ w, Calls Tryz.prog 285 #[.int .u8 ch] w fun e w' => e = .returned (fv G) ∧ w = w') :
 Calls Tryz.prog 281 #[.pointer (some ⟨L, 0, none⟩)] w fun e w' => e = .returned (.tuple #[fv G, .nilIface]) ∧ Lx w' L d c s (p + 2) ∧ Fr (fun k => k = L) w w' := by
 have HF := Lib.hid hf
 clear hf
 go_enter Tryz.func281, Tryz.ntmps281
 go_wp2_with (go_at_call 119; (with_reducible refine (par_handleType 285 G L d c s p ch a _ hL hs hb hc hb' hE hL0 enters285 HF.out).mono ?_); rintro e w1 ⟨rfl, hx1, hf1⟩)
 go_ret2
 exact ⟨rfl, hx1, hf1⟩
theorem st14_no (L : Nat) (d c : Value) (s : ByteArray) (p : Nat) (ch : Int) (a : Addr) (w : World) (hL : Lx w L d c s p) (hs : WfStr s) (hb : ByteAt s p ch) (hc : isNl ch = false) (hb' : ByteAt s (p + 1) 61) (hE : Eof w a) (hL0 : ¬ L = 0) (h : ch ≤ 96) :
 Calls Tryz.prog 281 #[.pointer (some ⟨L, 0, none⟩)] w fun e w' => (∃ v, e = .returned (.tuple #[.nilFunc, .iface 250 v])) ∧ Fr (fun k => k = L) w w' := by
 go_enter Tryz.func281, Tryz.ntmps281
 go_wp2_with (go_at_call 119; (with_reducible refine (par_handleType_no 285 L d c s p ch a _ hL hs hb hc hb' hE hL0 enters285 (fun w => clo14_no ch w h)).mono ?_); rintro e w1 ⟨⟨v, rfl⟩, hf1⟩)
 go_ret2
 exact ⟨⟨v, rfl⟩, hf1⟩
theorem st14_end (L : Nat) (d c : Value) (s : ByteArray) (a : Addr) (w : World) (hL : Lx w L d c s s.size) (hs : WfStr s) (hE : Eof w a) (hL0 : ¬ L = 0) :
 Calls Tryz.prog 281 #[.pointer (some ⟨L, 0, none⟩)] w fun e w' => e = .returned (.tuple #[.nilFunc, .nilIface]) ∧ Lx w' L d c s s.size ∧ Fr (fun k => k = L) w w' := by
 go_enter Tryz.func281, Tryz.ntmps281
 go_wp2_with (go_at_call 119; (with_reducible refine (par_handleType_end 285 L d c s a _ hL hs hE hL0).mono ?_); rintro e w1 ⟨rfl, hx1, hf1⟩)
 go_ret2
 exact ⟨rfl, hx1, hf1⟩
theorem enters282 : Enters 282 := fun _ _ => by kernel_rfl
theorem enters286 : Enters 286 := fun _ _ => by kernel_rfl
theorem clo15_109 (w : World) : Calls Tryz.prog 286 #[.int .u8 109] w fun e w' => e = .returned (fv 246) ∧ w = w' := by
 go_enter Tryz.func286, Tryz.ntmps286
 go_wp2
 go_ret
 exact ⟨rfl, rfl⟩
theorem clo15_105 (w : World) : Calls Tryz.prog 286 #[.int .u8 105] w fun e w' => e = .returned (fv 275) ∧ w = w' := by
 go_enter Tryz.func286, Tryz.ntmps286
 go_wp2
 go_ret
 exact ⟨rfl, rfl⟩
theorem clo15_99 (w : World) : Calls Tryz.prog 286 #[.int .u8 99] w fun e w' => e = .returned (fv 274) ∧ w = w' := by
 go_enter Tryz.func286, Tryz.ntmps286
 go_wp2
 go_ret
 exact ⟨rfl, rfl⟩
theorem clo15_98 (w : World) : Calls Tryz.prog 286 #[.int .u8 98] w fun e w' => e = .returned (fv 273) ∧ w = w' := by
 go_enter Tryz.func286, Tryz.ntmps286
 go_wp2
 go_ret
 exact ⟨rfl, rfl⟩
theorem clo15_107 (w : World) : Calls Tryz.prog 286 #[.int .u8 107] w fun e w' => e = .returned (fv 272) ∧ w = w' := by
 go_enter Tryz.func286, Tryz.ntmps286
 go_wp2
 go_ret
 exact ⟨rfl, rfl⟩
theorem clo15_97 (w : World) : Calls Tryz.prog 286 #[.int .u8 97] w fun e w' => e = .returned (fv 271) ∧ w = w' := by
 go_enter Tryz.func286, Tryz.ntmps286
 go_wp2
 go_ret
 exact ⟨rfl, rfl⟩
theorem clo15_no (c : Int) (w : World) (h : c ≤ 96) : Calls Tryz.prog 286 #[.int .u8 c] w fun e w' => e = .returned .nilFunc ∧ w = w' := by
 have k109 : (c == 109) = false := by simp; omega
 have k105 : (c == 105) = false := by simp; omega
 have k99 : (c == 99) = false := by simp; omega
 have k98 : (c == 98) = false := by simp; omega
 have k107 : (c == 107) = false := by simp; omega
 have k97 : (c == 97) = false := by simp; omega
 go_enter Tryz.func286, Tryz.ntmps286
 go_wp2
 go_ret
 exact ⟨rfl, rfl⟩
theorem st15 (G : Nat) (L : Nat) (d c : Value) (s : ByteArray) (p : Nat) (ch : Int) (a : Addr) (w : World) (hL : Lx w L d c s p) (hs : WfStr s) (hb : ByteAt s p ch) (hc : isNl ch = false) (hb' : ByteAt s (p + 1) 61) (hE : Eof w a) (hL0 : ¬ L = 0)
 (hf : ∀ w, Calls Tryz.prog 286 #[.int .u8 ch] w fun e w' => e = .returned (fv G) ∧ w = w') :
 Calls Tryz.prog 282 #[.pointer (some ⟨L, 0, none⟩)] w fun e w' => e = .returned (.tuple #[fv G, .nilIface]) ∧ Lx w' L d c s (p + 2) ∧ Fr (fun k => k = L) w w' := by
 have HF := Lib.hid hf
 clear hf
 go_enter Tryz.func282, Tryz.ntmps282
 go_wp2_with (go_at_call 119; (with_reducible refine (par_handleType 286 G L d c s p ch a _ hL hs hb hc hb' hE hL0 enters286 HF.out).mono ?_); rintro e w1 ⟨rfl, hx1, hf1⟩)
 go_ret2
 exact ⟨rfl, hx1, hf1⟩
theorem st15_no (L : Nat) (d c : Value) (s : ByteArray) (p : Nat) (ch : Int) (a : Addr) (w : World) (hL : Lx w L d c s p) (hs : WfStr s) (hb : ByteAt s p ch) (hc : isNl ch = false) (hb' : ByteAt s (p + 1) 61) (hE : Eof w a) (hL0 : ¬ L = 0) (h : ch ≤ 96) :
 Calls Tryz.prog 282 #[.pointer (some ⟨L, 0, none⟩)] w fun e w' => (∃ v, e = .returned (.tuple #[.nilFunc, .iface 250 v])) ∧ Fr (fun k => k = L) w w' := by
 go_enter Tryz.func282, Tryz.ntmps282
 go_wp2_with (go_at_call 119; (with_reducible refine (par_handleType_no 286 L d c s p ch a _ hL hs hb hc hb' hE hL0 enters286 (fun w => clo15_no ch w h)).mono ?_); rintro e w1 ⟨⟨v, rfl⟩, hf1⟩)
 go_ret2
 exact ⟨⟨v, rfl⟩, hf1⟩
theorem st15_end (L : Nat) (d c : Value) (s : ByteArray) (a : Addr) (w : World) (hL : Lx w L d c s s.size) (hs : WfStr s) (hE : Eof w a) (hL0 : ¬ L = 0) :
 Calls Tryz.prog 282 #[.pointer (some ⟨L, 0, none⟩)] w fun e w' => e = .returned (.tuple #[.nilFunc, .nilIface]) ∧ Lx w' L d c s s.size ∧ Fr (fun k => k = L) w w' := by
 go_enter Tryz.func282, Tryz.ntmps282
 go_wp2_with (go_at_call 119; (with_reducible refine (par_handleType_end 286 L d c s a _ hL hs hE hL0).mono ?_); rintro e w1 ⟨rfl, hx1, hf1⟩)
 go_ret2
 exact ⟨rfl, hx1, hf1⟩
theorem enters283 : Enters 283 := fun _ _ => by kernel_rfl
theorem enters287 : Enters 287 := fun _ _ => by kernel_rfl
theorem clo16_109 (w : World) : Calls Tryz.prog 287 #[.int .u8 109] w fun e w' => e = .returned (fv 246) ∧ w = w' := by
 go_enter Tryz.func287, Tryz.ntmps287
 go_wp2
 go_ret
 exact ⟨rfl, rfl⟩
theorem clo16_105 (w : World) : Calls Tryz.prog 287 #[.int .u8 105] w fun e w' => e = .returned (fv 275) ∧ w = w' := by
 go_enter Tryz.func287, Tryz.ntmps287
 go_wp2
 go_ret
 exact ⟨rfl, rfl⟩
theorem clo16_99 (w : World) : Calls Tryz.prog 287 #[.int .u8 99] w fun e w' => e = .returned (fv 274) ∧ w = w' := by
 go_enter Tryz.func287, Tryz.ntmps287
 go_wp2
 go_ret
 exact ⟨rfl, rfl⟩
theorem clo16_98 (w : World) : Calls Tryz.prog 287 #[.int .u8 98] w fun e w' => e = .returned (fv 273) ∧ w = w' := by
 go_enter Tryz.func287, Tryz.ntmps287
 go_wp2
 go_ret
 exact ⟨rfl, rfl⟩
theorem clo16_107 (w : World) : Calls Tryz.prog 287 #[.int .u8 107] w fun e w' => e = .returned (fv 272) ∧ w = w' := by
 go_enter Tryz.func287, Tryz.ntmps287
 go_wp2
 go_ret
 exact ⟨rfl, rfl⟩
theorem clo16_97 (w : World) : Calls Tryz.prog 287 #[.int .u8 97] w fun e w' => e = .returned (fv 271) ∧ w = w' := by
 go_enter Tryz.func287, Tryz.ntmps287
 go_wp2
 go_ret
 exact ⟨rfl, rfl⟩
theorem clo16_no (c : Int) (w : World) (h : c ≤ 96) : Calls Tryz.prog 287 #[.int .u8 c] w fun e w' => e = .returned .nilFunc ∧ w = w' := by
 have k109 : (c == 109) = false := by simp; omega
 have k105 : (c == 105) = false := by simp; omega
 have k99 : (c == 99) = false := by simp; omega
 have k98 : (c == 98) = false := by simp; omega
 have k107 : (c == 107) = false := by simp; omega
 have k97 : (c == 97) = false := by simp; omega
 go_enter Tryz.func287, Tryz.ntmps287
 go_wp2
 go_ret
 exact ⟨rfl, rfl⟩
theorem st16 (G : Nat) (L : Nat) (d c : Value) (s : ByteArray) (p : Nat) (ch : Int) (a : Addr) (w : World) (hL : Lx w L d c s p) (hs : WfStr s) (hb : ByteAt s p ch) (hc : isNl ch = false) (hb' : ByteAt s (p + 1) 61) (hE : Eof w a) (hL0 : ¬ L = 0)
 (hf : ∀ w, Calls Tryz.prog 287 #[.int .u8 ch] w fun e w' => e = .returned (fv G) ∧ w = w') :
 Calls Tryz.prog 283 #[.pointer (some ⟨L, 0, none⟩)] w fun e w' => e = .returned (.tuple #[fv G, .nilIface]) ∧ Lx w' L d c s (p + 2) ∧ Fr (fun k => k = L) w w' := by
 have HF := Lib.hid hf
 clear hf
 go_enter Tryz.func283, Tryz.ntmps283
 go_wp2_with (go_at_call 119; (with_reducible refine (par_handleType 287 G L d c s p ch a _ hL hs hb hc hb' hE hL0 enters287 HF.out).mono ?_); rintro e w1 ⟨rfl, hx1, hf1⟩)
 go_ret2
 exact ⟨rfl, hx1, hf1⟩
theorem st16_no (L : Nat) (d c : Value) (s : ByteArray) (p : Nat) (ch : Int) (a : Addr) (w : World) (hL : Lx w L d c s p) (hs : WfStr s) (hb : ByteAt s p ch) (hc : isNl ch = false) (hb' : ByteAt s (p + 1) 61) (hE : Eof w a) (hL0 : ¬ L = 0) (h : ch ≤ 96) :
 Calls Tryz.prog 283 #[.pointer (some ⟨L, 0, none⟩)] w fun e w' => (∃ v, e = .returned (.tuple #[.nilFunc, .iface 250 v])) ∧ Fr (fun k => k = L) w w' := by
 go_enter Tryz.func283, Tryz.ntmps283
 go_wp2_with (go_at_call 119; (with_reducible refine (par_handleType_no 287 L d c s p ch a _ hL hs hb hc hb' hE hL0 enters287 (fun w => clo16_no ch w h)).mono ?_); rintro e w1 ⟨⟨v, rfl⟩, hf1⟩)
 go_ret2
 exact ⟨⟨v, rfl⟩, hf1⟩
theorem st16_end (L : Nat) (d c : Value) (s : ByteArray) (a : Addr) (w : World) (hL : Lx w L d c s s.size) (hs : WfStr s) (hE : Eof w a) (hL0 : ¬ L = 0) :
 Calls Tryz.prog 283 #[.pointer (some ⟨L, 0, none⟩)] w fun e w' => e = .returned (.tuple #[.nilFunc, .nilIface]) ∧ Lx w' L d c s s.size ∧ Fr (fun k => k = L) w w' := by
 go_enter Tryz.func283, Tryz.ntmps283
 go_wp2_with (go_at_call 119; (with_reducible refine (par_handleType_end 287 L d c s a _ hL hs hE hL0).mono ?_); rintro e w1 ⟨rfl, hx1, hf1⟩)
 go_ret2
 exact ⟨rfl, hx1, hf1⟩
def sfn : Nat → Nat
 | 1 => 64
 | 2 => 146
 | 3 => 177
 | 4 => 214
 | 5 => 230
 | 6 => 227
 | 7 => 224
 | 8 => 228
 | 9 => 232
 | 10 => 226
 | 11 => 253
 | 12 => 258
 | 13 => 252
 | 14 => 281
 | 15 => 282
 | 16 => 283
 | _ => 0
def ufn : Ln → Nat
 | .lv => 121
 | .lo _ => 162
 | .ls _ => 202
 | .li _ => 217
 | .lu _ => 218
 | .le _ => 219
 | .lp _ => 220
 | .lc _ => 221
 | .lb _ => 222
 | .lt _ => 223
 | .lr _ => 245
 | .lz _ => 242
 | .lk _ => 243
 | .la _ => 244
 | .lm _ => 246
 | .mi _ => 275
 | .mc _ => 274
 | .mb _ => 273
 | .mkey _ => 272
 | .ma _ => 271
theorem enters121 : Enters 121 := fun _ _ => by kernel_rfl
theorem enters162 : Enters 162 := fun _ _ => by kernel_rfl
theorem enters202 : Enters 202 := fun _ _ => by kernel_rfl
theorem enters217 : Enters 217 := fun _ _ => by kernel_rfl
theorem enters218 : Enters 218 := fun _ _ => by kernel_rfl
theorem enters219 : Enters 219 := fun _ _ => by kernel_rfl
theorem enters220 : Enters 220 := fun _ _ => by kernel_rfl
theorem enters221 : Enters 221 := fun _ _ => by kernel_rfl
theorem enters222 : Enters 222 := fun _ _ => by kernel_rfl
theorem enters223 : Enters 223 := fun _ _ => by kernel_rfl
theorem enters242 : Enters 242 := fun _ _ => by kernel_rfl
theorem enters243 : Enters 243 := fun _ _ => by kernel_rfl
theorem enters244 : Enters 244 := fun _ _ => by kernel_rfl
theorem enters245 : Enters 245 := fun _ _ => by kernel_rfl
theorem enters246 : Enters 246 := fun _ _ => by kernel_rfl
theorem enters271 : Enters 271 := fun _ _ => by kernel_rfl
theorem enters272 : Enters 272 := fun _ _ => by kernel_rfl
theorem enters273 : Enters 273 := fun _ _ => by kernel_rfl
theorem enters274 : Enters 274 := fun _ _ => by kernel_rfl
theorem enters275 : Enters 275 := fun _ _ => by kernel_rfl
theorem enters_ufn (l : Ln) : Enters (ufn l) := by
 cases l
 case lv => exact enters121
 case lo x => exact enters162
 case ls x => exact enters202
 case li x => exact enters217
 case lu x => exact enters218
 case le x => exact enters219
 case lp x => exact enters220
 case lc x => exact enters221
 case lb x => exact enters222
 case lt x => exact enters223
 case lr x => exact enters245
 case lz x => exact enters242
 case lk x => exact enters243
 case la x => exact enters244
 case lm x => exact enters246
 case mi x => exact enters275
 case mc x => exact enters274
 case mb x => exact enters273
 case mkey x => exact enters272
 case ma x => exact enters271
theorem enters_sfn (n : Nat) (h1 : 1 ≤ n) (h2 : n ≤ 16) : Enters (sfn n) := by
 have : n = 1 ∨ n = 2 ∨ n = 3 ∨ n = 4 ∨ n = 5 ∨ n = 6 ∨ n = 7 ∨ n = 8 ∨ n = 9 ∨ n = 10 ∨ n = 11 ∨ n = 12 ∨ n = 13 ∨ n = 14 ∨ n = 15 ∨ n = 16 := by omega
 rcases this with rfl | rfl | rfl | rfl | rfl | rfl | rfl | rfl | rfl | rfl | rfl | rfl | rfl | rfl | rfl | rfl
 · exact enters64
 · exact enters146
 · exact enters177
 · exact enters214
 · exact enters230
 · exact enters227
 · exact enters224
 · exact enters228
 · exact enters232
 · exact enters226
 · exact enters253
 · exact enters258
 · exact enters252
 · exact enters281
 · exact enters282
 · exact enters283
theorem st_known (n : Nat) (l : Ln) (hn : n ∈ l.from_) (L : Nat) (d c : Value) (s : ByteArray) (p : Nat) (a : Addr) (w : World) (hL : Lx w L d c s p) (hs : WfStr s) (hb : ByteAt s p (l.key.toNat : Int)) (hb' : ByteAt s (p + 1) 61) (hE : Eof w a) (hL0 : ¬ L = 0) :
 Calls Tryz.prog (sfn n) #[.pointer (some ⟨L, 0, none⟩)] w fun e w' => e = .returned (.tuple #[fv (ufn l), .nilIface]) ∧ Lx w' L d c s (p + 2) ∧ Fr (fun k => k = L) w w' := by
 cases l
 case lv =>
  simp only [Ln.from_, List.mem_cons, List.not_mem_nil, or_false] at hn
  subst hn
  exact st1 121 L d c s p 118 a w hL hs hb (by decide) hb' hE hL0 clo1_118
 case lo x =>
  simp only [Ln.from_, List.mem_cons, List.not_mem_nil, or_false] at hn
  subst hn
  exact st2 162 L d c s p 111 a w hL hs hb (by decide) hb' hE hL0 clo2_111
 case ls x =>
  simp only [Ln.from_, List.mem_cons, List.not_mem_nil, or_false] at hn
  subst hn
  exact st3 202 L d c s p 115 a w hL hs hb (by decide) hb' hE hL0 clo3_115
 case li x =>
  simp only [Ln.from_, List.mem_cons, List.not_mem_nil, or_false] at hn
  subst hn
  exact st4 217 L d c s p 105 a w hL hs hb (by decide) hb' hE hL0 clo4_105
 case lu x =>
  simp only [Ln.from_, List.mem_cons, List.not_mem_nil, or_false] at hn
  rcases hn with rfl | rfl
  · exact st4 218 L d c s p 117 a w hL hs hb (by decide) hb' hE hL0 clo4_117
  · exact st7 218 L d c s p 117 a w hL hs hb (by decide) hb' hE hL0 clo7_117
 case le x =>
  simp only [Ln.from_, List.mem_cons, List.not_mem_nil, or_false] at hn
  rcases hn with rfl | rfl | rfl
  · exact st4 219 L d c s p 101 a w hL hs hb (by decide) hb' hE hL0 clo4_101
  · exact st7 219 L d c s p 101 a w hL hs hb (by decide) hb' hE hL0 clo7_101
  · exact st10 219 L d c s p 101 a w hL hs hb (by decide) hb' hE hL0 clo10_101
 case lp x =>
  simp only [Ln.from_, List.mem_cons, List.not_mem_nil, or_false] at hn
  rcases hn with rfl | rfl | rfl | rfl
  · exact st4 220 L d c s p 112 a w hL hs hb (by decide) hb' hE hL0 clo4_112
  · exact st6 220 L d c s p 112 a w hL hs hb (by decide) hb' hE hL0 clo6_112
  · exact st7 220 L d c s p 112 a w hL hs hb (by decide) hb' hE hL0 clo7_112
  · exact st10 220 L d c s p 112 a w hL hs hb (by decide) hb' hE hL0 clo10_112
 case lc x =>
  simp only [Ln.from_, List.mem_cons, List.not_mem_nil, or_false] at hn
  rcases hn with rfl | rfl | rfl | rfl | rfl
  · exact st4 221 L d c s p 99 a w hL hs hb (by decide) hb' hE hL0 clo4_99
  · exact st6 221 L d c s p 99 a w hL hs hb (by decide) hb' hE hL0 clo6_99
  · exact st7 221 L d c s p 99 a w hL hs hb (by decide) hb' hE hL0 clo7_99
  · exact st8 221 L d c s p 99 a w hL hs hb (by decide) hb' hE hL0 clo8_99
  · exact st10 221 L d c s p 99 a w hL hs hb (by decide) hb' hE hL0 clo10_99
 case lb x =>
  simp only [Ln.from_, List.mem_cons, List.not_mem_nil, or_false] at hn
  rcases hn with rfl | rfl | rfl | rfl | rfl | rfl
  · exact st4 222 L d c s p 98 a w hL hs hb (by decide) hb' hE hL0 clo4_98
  · exact st5 222 L d c s p 98 a w hL hs hb (by decide) hb' hE hL0 clo5_98
  · exact st6 222 L d c s p 98 a w hL hs hb (by decide) hb' hE hL0 clo6_98
  · exact st7 222 L d c s p 98 a w hL hs hb (by decide) hb' hE hL0 clo7_98
  · exact st8 222 L d c s p 98 a w hL hs hb (by decide) hb' hE hL0 clo8_98
  · exact st10 222 L d c s p 98 a w hL hs hb (by decide) hb' hE hL0 clo10_98
 case lt x =>
  simp only [Ln.from_, List.mem_cons, List.not_mem_nil, or_false] at hn
  rcases hn with rfl | rfl | rfl | rfl | rfl | rfl | rfl
  · exact st4 223 L d c s p 116 a w hL hs hb (by decide) hb' hE hL0 clo4_116
  · exact st5 223 L d c s p 116 a w hL hs hb (by decide) hb' hE hL0 clo5_116
  · exact st6 223 L d c s p 116 a w hL hs hb (by decide) hb' hE hL0 clo6_116
  · exact st7 223 L d c s p 116 a w hL hs hb (by decide) hb' hE hL0 clo7_116
  · exact st8 223 L d c s p 116 a w hL hs hb (by decide) hb' hE hL0 clo8_116
  · exact st9 223 L d c s p 116 a w hL hs hb (by decide) hb' hE hL0 clo9_116
  · exact st10 223 L d c s p 116 a w hL hs hb (by decide) hb' hE hL0 clo10_116
 case lr x =>
  simp only [Ln.from_, List.mem_cons, List.not_mem_nil, or_false] at hn
  subst hn
  exact st9 245 L d c s p 114 a w hL hs hb (by decide) hb' hE hL0 clo9_114
 case lz x =>
  simp only [Ln.from_, List.mem_cons, List.not_mem_nil, or_false] at hn
  subst hn
  exact st9 242 L d c s p 122 a w hL hs hb (by decide) hb' hE hL0 clo9_122
 case lk x =>
  simp only [Ln.from_, List.mem_cons, List.not_mem_nil, or_false] at hn
  rcases hn with rfl | rfl
  · exact st9 243 L d c s p 107 a w hL hs hb (by decide) hb' hE hL0 clo9_107
  · exact st13 243 L d c s p 107 a w hL hs hb (by decide) hb' hE hL0 clo13_107
 case la x =>
  simp only [Ln.from_, List.mem_cons, List.not_mem_nil, or_false] at hn
  rcases hn with rfl | rfl | rfl
  · exact st9 244 L d c s p 97 a w hL hs hb (by decide) hb' hE hL0 clo9_97
  · exact st11 244 L d c s p 97 a w hL hs hb (by decide) hb' hE hL0 clo11_97
  · exact st13 244 L d c s p 97 a w hL hs hb (by decide) hb' hE hL0 clo13_97
 case lm x =>
  simp only [Ln.from_, List.mem_cons, List.not_mem_nil, or_false] at hn
  rcases hn with rfl | rfl | rfl | rfl | rfl | rfl | rfl
  · exact st9 246 L d c s p 109 a w hL hs hb (by decide) hb' hE hL0 clo9_109
  · exact st11 246 L d c s p 109 a w hL hs hb (by decide) hb' hE hL0 clo11_109
  · exact st12 246 L d c s p 109 a w hL hs hb (by decide) hb' hE hL0 clo12_109
  · exact st13 246 L d c s p 109 a w hL hs hb (by decide) hb' hE hL0 clo13_109
  · exact st14 246 L d c s p 109 a w hL hs hb (by decide) hb' hE hL0 clo14_109
  · exact st15 246 L d c s p 109 a w hL hs hb (by decide) hb' hE hL0 clo15_109
  · exact st16 246 L d c s p 109 a w hL hs hb (by decide) hb' hE hL0 clo16_109
 case mi x =>
  simp only [Ln.from_, List.mem_cons, List.not_mem_nil, or_false] at hn
  rcases hn with rfl | rfl | rfl | rfl
  · exact st12 275 L d c s p 105 a w hL hs hb (by decide) hb' hE hL0 clo12_105
  · exact st14 275 L d c s p 105 a w hL hs hb (by decide) hb' hE hL0 clo14_105
  · exact st15 275 L d c s p 105 a w hL hs hb (by decide) hb' hE hL0 clo15_105
  · exact st16 275 L d c s p 105 a w hL hs hb (by decide) hb' hE hL0 clo16_105
 case mc x =>
  simp only [Ln.from_, List.mem_cons, List.not_mem_nil, or_false] at hn
  rcases hn with rfl | rfl | rfl | rfl
  · exact st12 274 L d c s p 99 a w hL hs hb (by decide) hb' hE hL0 clo12_99
  · exact st14 274 L d c s p 99 a w hL hs hb (by decide) hb' hE hL0 clo14_99
  · exact st15 274 L d c s p 99 a w hL hs hb (by decide) hb' hE hL0 clo15_99
  · exact st16 274 L d c s p 99 a w hL hs hb (by decide) hb' hE hL0 clo16_99
 case mb x =>
  simp only [Ln.from_, List.mem_cons, List.not_mem_nil, or_false] at hn
  rcases hn with rfl | rfl | rfl | rfl
  · exact st12 273 L d c s p 98 a w hL hs hb (by decide) hb' hE hL0 clo12_98
  · exact st14 273 L d c s p 98 a w hL hs hb (by decide) hb' hE hL0 clo14_98
  · exact st15 273 L d c s p 98 a w hL hs hb (by decide) hb' hE hL0 clo15_98
  · exact st16 273 L d c s p 98 a w hL hs hb (by decide) hb' hE hL0 clo16_98
 case mkey x =>
  simp only [Ln.from_, List.mem_cons, List.not_mem_nil, or_false] at hn
  rcases hn with rfl | rfl | rfl | rfl
  · exact st12 272 L d c s p 107 a w hL hs hb (by decide) hb' hE hL0 clo12_107
  · exact st14 272 L d c s p 107 a w hL hs hb (by decide) hb' hE hL0 clo14_107
  · exact st15 272 L d c s p 107 a w hL hs hb (by decide) hb' hE hL0 clo15_107
  · exact st16 272 L d c s p 107 a w hL hs hb (by decide) hb' hE hL0 clo16_107
 case ma x =>
  simp only [Ln.from_, List.mem_cons, List.not_mem_nil, or_false] at hn
  rcases hn with rfl | rfl | rfl | rfl
  · exact st12 271 L d c s p 97 a w hL hs hb (by decide) hb' hE hL0 clo12_97
  · exact st14 271 L d c s p 97 a w hL hs hb (by decide) hb' hE hL0 clo14_97
  · exact st15 271 L d c s p 97 a w hL hs hb (by decide) hb' hE hL0 clo15_97
  · exact st16 271 L d c s p 97 a w hL hs hb (by decide) hb' hE hL0 clo16_97
theorem st_no (n : Nat) (h1 : 1 ≤ n) (h2 : n ≤ 16) (L : Nat) (d c : Value) (s : ByteArray) (p : Nat) (ch : Int) (a : Addr) (w : World) (hL : Lx w L d c s p) (hs : WfStr s) (hb : ByteAt s p ch) (hc : isNl ch = false) (hb' : ByteAt s (p + 1) 61) (hE : Eof w a) (hL0 : ¬ L = 0) (h : ch ≤ 96) :
 Calls Tryz.prog (sfn n) #[.pointer (some ⟨L, 0, none⟩)] w fun e w' => (∃ v, e = .returned (.tuple #[.nilFunc, .iface 250 v])) ∧ Fr (fun k => k = L) w w' := by
 have : n = 1 ∨ n = 2 ∨ n = 3 ∨ n = 4 ∨ n = 5 ∨ n = 6 ∨ n = 7 ∨ n = 8 ∨ n = 9 ∨ n = 10 ∨ n = 11 ∨ n = 12 ∨ n = 13 ∨ n = 14 ∨ n = 15 ∨ n = 16 := by omega
 rcases this with rfl | rfl | rfl | rfl | rfl | rfl | rfl | rfl | rfl | rfl | rfl | rfl | rfl | rfl | rfl | rfl
 · exact st1_no L d c s p ch a w hL hs hb hc hb' hE hL0 h
 · exact st2_no L d c s p ch a w hL hs hb hc hb' hE hL0 h
 · exact st3_no L d c s p ch a w hL hs hb hc hb' hE hL0 h
 · exact st4_no L d c s p ch a w hL hs hb hc hb' hE hL0 h
 · exact st5_no L d c s p ch a w hL hs hb hc hb' hE hL0 h
 · exact st6_no L d c s p ch a w hL hs hb hc hb' hE hL0 h
 · exact st7_no L d c s p ch a w hL hs hb hc hb' hE hL0 h
 · exact st8_no L d c s p ch a w hL hs hb hc hb' hE hL0 h
 · exact st9_no L d c s p ch a w hL hs hb hc hb' hE hL0 h
 · exact st10_no L d c s p ch a w hL hs hb hc hb' hE hL0 h
 · exact st11_no L d c s p ch a w hL hs hb hc hb' hE hL0 h
 · exact st12_no L d c s p ch a w hL hs hb hc hb' hE hL0 h
 · exact st13_no L d c s p ch a w hL hs hb hc hb' hE hL0 h
 · exact st14_no L d c s p ch a w hL hs hb hc hb' hE hL0 h
 · exact st15_no L d c s p ch a w hL hs hb hc hb' hE hL0 h
 · exact st16_no L d c s p ch a w hL hs hb hc hb' hE hL0 h
theorem st_end (n : Nat) (h1 : 1 ≤ n) (h2 : n ≤ 16) (L : Nat) (d c : Value) (s : ByteArray) (a : Addr) (w : World) (hL : Lx w L d c s s.size) (hs : WfStr s) (hE : Eof w a) (hL0 : ¬ L = 0) :
 Calls Tryz.prog (sfn n) #[.pointer (some ⟨L, 0, none⟩)] w fun e w' => e = .returned (.tuple #[.nilFunc, .nilIface]) ∧ Lx w' L d c s s.size ∧ Fr (fun k => k = L) w w' := by
 have : n = 1 ∨ n = 2 ∨ n = 3 ∨ n = 4 ∨ n = 5 ∨ n = 6 ∨ n = 7 ∨ n = 8 ∨ n = 9 ∨ n = 10 ∨ n = 11 ∨ n = 12 ∨ n = 13 ∨ n = 14 ∨ n = 15 ∨ n = 16 := by omega
 rcases this with rfl | rfl | rfl | rfl | rfl | rfl | rfl | rfl | rfl | rfl | rfl | rfl | rfl | rfl | rfl | rfl
 · exact st1_end L d c s a w hL hs hE hL0
 · exact st2_end L d c s a w hL hs hE hL0
 · exact st3_end L d c s a w hL hs hE hL0
 · exact st4_end L d c s a w hL hs hE hL0
 · exact st5_end L d c s a w hL hs hE hL0
 · exact st6_end L d c s a w hL hs hE hL0
 · exact st7_end L d c s a w hL hs hE hL0
 · exact st8_end L d c s a w hL hs hE hL0
 · exact st9_end L d c s a w hL hs hE hL0
 · exact st10_end L d c s a w hL hs hE hL0
 · exact st11_end L d c s a w hL hs hE hL0
 · exact st12_end L d c s a w hL hs hE hL0
 · exact st13_end L d c s a w hL hs hE hL0
 · exact st14_end L d c s a w hL hs hE hL0
 · exact st15_end L d c s a w hL hs hE hL0
 · exact st16_end L d c s a w hL hs hE hL0
end Go.Proofs.YtcepdjlknalmnaaGreatDoor

/- The reader's fields and lines. -/
import Derived.Test.YtcepdjlknalmnaaGreatDoorOwn
import Derived.LaidEql
import Derived.Stop.Asserts
import Derived.RowKitTokens
import Derived.WalkLawsBesides
import Derived.Deep.LoopGhost
import Derived.IntWalk
namespace Go.Proofs.YtcepdjlknalmnaaGreatDoor
open Go.RowKit
set_option linter.unusedSimpArgs false
set_option linter.unusedVariables false
def Blk (w : World) (g : Nat) (l : List Value) (t : TypeId) : Prop := w.heap[g]? = some (.cells l.toArray t (0, 0))
namespace Blk
variable {w w' : World} {g : Nat} {l : List Value} {t : TypeId}
theorem lt (h : Blk w g l t) : g < w.heap.size := by
 rcases Nat.lt_or_ge g w.heap.size with h' | h'
 · exact h'
 · unfold Blk at h; simp [Array.getElem?_eq_none h'] at h
theorem cell (h : Blk w g l t) (j : Nat) {u : Value} (hu : l[j]? = some u) : w.cell? ⟨g, j, none⟩ = some u := by
 unfold Blk at h
 simp [World.cell?, h, hu]
theorem fz (h : Blk w g l t) (j : Nat) : w.frozen? ⟨g, j, none⟩ = false := by
 unfold Blk at h
 simp [World.frozen?, h]
theorem fr {S : Nat → Prop} (h : Blk w g l t) (hf : Fr S w w') (hs : ¬ S g) : Blk w' g l t := (hf.block g h.lt hs).trans h
theorem nw (h : Blk w g l t) (hf : Nw w w') : Blk w' g l t := (hf.block g h.lt).trans h
theorem drewN (h : Blk w g l t) (n : Nat) : Blk (w.drewN n) g l t := h
theorem drew (h : Blk w g l t) : Blk w.drew g l t := h
theorem alloc (h : Blk w g l t) (o : Obj) : Blk (w.alloc o) g l t := h.nw ((Nw.refl w).alloc o)
theorem made (w : World) (l : List Value) (t : TypeId) : Blk (w.alloc (.cells l.toArray t)) w.heap.size l t := heap_alloc_new w _
theorem set (h : Blk w g l t) (j : Nat) (u : Value) : Blk (w.setCell ⟨g, j, none⟩ u) g (l.set j u) t := by
 have hlt := h.lt
 have h' : w.heap[g] = .cells l.toArray t (0, 0) := by
  have := h
  unfold Blk at this
  simpa [Array.getElem?_eq_getElem hlt] using this
 show (w.heap.modify g _)[g]? = _
 rw [Array.getElem?_eq_getElem (by simpa using hlt), Array.getElem_modify_self, h']
 simp [List.setIfInBounds_toArray]
theorem other (h : Blk w g l t) {p : Addr} (hp : ¬ g = p.block) (u : Value) : Blk (w.setCell p u) g l t := by
 unfold Blk
 rw [Below.heap_setCell _ _ _ _ hp]
 exact h
end Blk
theorem Fr.self {w : World} {p : Addr} (u : Value) : Fr (fun k => k = p.block) w (w.setCell p u) := (Fr.refl (fun k => k = p.block) w).setCell (.inl rfl) u
def Eof (w : World) (a : Addr) : Prop := w.cell? ⟨0, 0, none⟩ = some (.iface 348 (.pointer (some a)))
theorem Eof.fr {S : Nat → Prop} {w w' : World} {a : Addr} (h : Eof w a) (hf : Fr S w w') (hs : ¬ S 0) : Eof w' a := hf.cell (p := ⟨0, 0, none⟩) hs h
theorem Eof.nw {w w' : World} {a : Addr} (h : Eof w a) (hf : Nw w w') : Eof w' a := hf.cell (p := ⟨0, 0, none⟩) h
theorem eofTypeOf (v : Value) (w : World) : (Extern.ReflectliteType.typeOf #[.iface 348 v]).run Tryz.prog w = .ok (.iface 266 (.agg #[.pointer (some ⟨17, 348, none⟩)])) w := by kernel_rfl
theorem eofComparable (w : World) : ((Extern.ReflectliteType.method fun t => do Extern.Rtype.noPackHeld "Comparable" t; pure (.bool (← typeInfo t).comparable)) #[.agg #[.pointer (some ⟨17, 348, none⟩)]]).run Tryz.prog w = .ok (.bool true) w := by kernel_rfl
theorem eofMethod (v : Value) (w : World) : (Go.method 482 266 v "Comparable").run Tryz.prog w = .ok (325, v) w := by kernel_rfl
theorem call325 (w : World) : (callFunc 325 #[.agg #[.pointer (some ⟨17, 348, none⟩)]]).run Tryz.prog w = .ok (.value (.bool true)) w := by
 have h := @run_callFunc_extern Tryz.prog 325 _ (Extern.ReflectliteType.method fun t => do Extern.Rtype.noPackHeld "Comparable" t; pure (.bool (← typeInfo t).comparable)) Tryz.func325 (by kernel_rfl) (by kernel_rfl) (by kernel_rfl) (by kernel_rfl)
 rw [h, eofComparable]
 rfl
theorem call156 (v : Value) (w : World) : (callFunc 156 #[.iface 348 v]).run Tryz.prog w = .ok (.value (.iface 266 (.agg #[.pointer (some ⟨17, 348, none⟩)]))) w := by
 have h := @run_callFunc_extern Tryz.prog 156 _ Extern.ReflectliteType.typeOf Tryz.func156 (by kernel_rfl) (by kernel_rfl) (by kernel_rfl) (by kernel_rfl)
 rw [h, eofTypeOf]
 rfl
theorem eofComp : (Tryz.prog.info? 348).map (·.comparable) = some true := by kernel_rfl
theorem eofSize : (Tryz.prog.info? 350).map (·.size) = some 1 := by kernel_rfl
set_option maxRecDepth 100000 in
theorem is_same (a : Addr) (w : World) :
 Calls Tryz.prog 142 #[.iface 348 (.pointer (some a)), .iface 348 (.pointer (some a))] w fun e w' => e = .returned (.bool true) ∧ w = w' := by
 obtain ⟨i, hi, hcmp⟩ := Option.map_eq_some_iff.1 eofComp
 obtain ⟨j, hj, hjs⟩ := Option.map_eq_some_iff.1 eofSize
 have h8 := call156
 have h32 := call325
 have mR := eofMethod
 have heq := run_eql_iface_ptr_same (P := Tryz.prog) w a Tryz.underlying118 Tryz.underlying348 hi hcmp hj
 go_enter Tryz.func142, Tryz.ntmps142
 go_wp2
 refine wp_loop_rounds 1 ?_
 rw [rounds_succ]
 go_wp2
 go_ret
 exact ⟨rfl, rfl⟩
theorem is_nil (a : Addr) (w : World) :
 Calls Tryz.prog 142 #[.nilIface, .iface 348 (.pointer (some a))] w fun e w' => e = .returned (.bool false) ∧ w = w' := by
 have hn := run_eql_iface_nil_left (P := Tryz.prog) w 348 (.pointer (some a)) Tryz.underlying118
 go_enter Tryz.func142, Tryz.ntmps142
 go_wp2
 go_ret
 exact ⟨rfl, rfl⟩
end Go.Proofs.YtcepdjlknalmnaaGreatDoor
/- The reader's small steps: a byte forth and back, newlines and blanks. -/
namespace Go.Proofs.YtcepdjlknalmnaaGreatDoor
open Go.RowKit
set_option linter.unusedSimpArgs false
set_option linter.unusedVariables false
def ByteAt (s : ByteArray) (p : Nat) (c : Int) : Prop := ∃ h : p < s.size, ((s[p]'h).toNat : Int) = c
def Lx (w : World) (L : Nat) (d c : Value) (s : ByteArray) (p : Nat) : Prop := Blk w L [d, c, .string s, .int .i64 p] 153
theorem Fr.put {L j : Nat} {a w : World} (h : Fr (fun k => k = L) a w) (u : Value) : Fr (fun k => k = L) a (w.setCell ⟨L, j, none⟩ u) := h.setCell (.inl rfl) u
theorem ret_pair {a b a' b' : Value} (h : a = a') (k : b = b') : Ending.returned (.tuple #[a, b]) = .returned (.tuple #[a', b']) := by rw [h, k]
theorem Lx.put {w : World} {L : Nat} {d c : Value} {s : ByteArray} {p p' : Nat} {q : Int} (h : Lx w L d c s p) (hq : q = (p' : Int)) : Lx (w.setCell ⟨L, 3, none⟩ (.int .i64 q)) L d c s p' := by
 subst hq
 exact Blk.set h 3 _
theorem Lx.fr {S : Nat → Prop} {w w' : World} {L : Nat} {d c : Value} {s : ByteArray} {p : Nat} (h : Lx w L d c s p) (hf : Fr S w w') (hs : ¬ S L) : Lx w' L d c s p := Blk.fr h hf hs
theorem Lx.nw {w w' : World} {L : Nat} {d c : Value} {s : ByteArray} {p : Nat} (h : Lx w L d c s p) (hf : Nw w w') : Lx w' L d c s p := Blk.nw h hf
def isNl (c : Int) : Bool := (c == 10) || (c == 13)
def isWs (c : Int) : Bool := (c == 32) || (c == 9)
theorem lex_isNewline (c : Int) (w : World) : Calls Tryz.prog 155 #[.int .u8 c] w fun e w' => e = .returned (.bool (isNl c)) ∧ w = w' := by
 go_enter Tryz.func155, Tryz.ntmps155
 by_cases h1 : (c == 10) = true
 · go_wp2
   go_ret
   exact ⟨ret_bool (by unfold isNl; rw [h1]; rfl), rfl⟩
 · have h1' : (c == 10) = false := by simpa using h1
   clear h1
   by_cases h2 : (c == 13) = true
   · go_wp2
     go_ret
     exact ⟨ret_bool (by unfold isNl; rw [h1', h2]; rfl), rfl⟩
   · have h2' : (c == 13) = false := by simpa using h2
     clear h2
     go_wp2
     go_ret
     exact ⟨ret_bool (by unfold isNl; rw [h1', h2']; rfl), rfl⟩
set_option maxRecDepth 100000 in
theorem lex_readByte (L : Nat) (d c : Value) (s : ByteArray) (p : Nat) (ch : Int) (w : World) (hL : Lx w L d c s p) (hch : ByteAt s p ch) (hs : WfStr s) :
 Calls Tryz.prog 154 #[.pointer (some ⟨L, 2, none⟩)] w fun e w' => e = .returned (.tuple #[.int .u8 ch, .nilIface]) ∧ Lx w' L d c s (p + 1) ∧ Fr (fun k => k = L) w w' := by
 obtain ⟨hp, hc0⟩ := hch
 have hc := Lib.hid hc0
 clear hc0
 have hm : s.size ≤ 1152921504606846976 := hs
 have l2 := Blk.cell hL 2 rfl
 have l3 := Blk.cell hL 3 rfl
 have f3 := Blk.fz hL 3
 have hpi : (p : Int) < (s.size : Int) := by omega
 have hp0 : (0 : Int) ≤ (p : Int) := by omega
 have hd : decide (s.size ≤ p) = false := by simp; omega
 go_enter Tryz.func154, Tryz.ntmps154
 go_wp2
 go_quiet (fail)
 go_wp2
 go_quiet (fail)
 go_wp2
 go_ret2
 exact ⟨ret_pair (congrArg (Value.int .u8) hc.out) rfl, Lx.put (Blk.drewN hL _) (by omega), by (repeat (first | (with_reducible assumption) | (with_reducible exact Fr.refl _ _) | (with_reducible refine Fr.drew ?_) | (with_reducible refine Fr.drewN ?_ _) | (with_reducible refine Fr.alloc ?_ _) | (with_reducible refine Fr.put ?_ _)))⟩
set_option maxRecDepth 100000 in
theorem lex_readByte_end (L : Nat) (d c : Value) (s : ByteArray) (a : Addr) (w : World) (hL : Lx w L d c s s.size) (hs : WfStr s) (hE : Eof w a) :
 Calls Tryz.prog 154 #[.pointer (some ⟨L, 2, none⟩)] w fun e w' => e = .returned (.tuple #[.int .u8 0, .iface 348 (.pointer (some a))]) ∧ Lx w' L d c s s.size ∧ Fr (fun k => k = L) w w' := by
 have hm : s.size ≤ 1152921504606846976 := hs
 have l2 := Blk.cell hL 2 rfl
 have l3 := Blk.cell hL 3 rfl
 have g0 : w.cell? ⟨0, 0, none⟩ = some (.iface 348 (.pointer (some a))) := hE
 go_enter Tryz.func154, Tryz.ntmps154
 go_wp2
 go_quiet (fail)
 go_wp2
 go_quiet (fail)
 go_wp2
 go_ret2
 exact ⟨rfl, Blk.drewN (Blk.drewN hL _) _, by (repeat (first | (with_reducible assumption) | (with_reducible exact Fr.refl _ _) | (with_reducible refine Fr.drew ?_) | (with_reducible refine Fr.drewN ?_ _) | (with_reducible refine Fr.alloc ?_ _) | (with_reducible refine Fr.put ?_ _)))⟩
set_option maxRecDepth 100000 in
theorem lex_syntaxError (L : Nat) (d c : Value) (s : ByteArray) (p : Nat) (w : World) (hL : Lx w L d c s p) (hs : WfStr s) (hp : p ≤ s.size) :
 Calls Tryz.prog 143 #[.pointer (some ⟨L, 2, none⟩)] w fun e w' => (∃ v, e = .returned (.iface 250 v)) ∧ Lx w' L d c s p ∧ Fr (fun k => k = L) w w' := by
 have hm : s.size ≤ 1152921504606846976 := hs
 have l2 := Blk.cell hL 2 rfl
 have l3 := Blk.cell hL 3 rfl
 have h0 : IntKind.i64.wrap ((p : Int) - 1) = (p : Int) - 1 := IntWalk.i64_in _ (by omega)
 go_enter Tryz.func143, Tryz.ntmps143
 go_wp2
 go_quiet (fail)
 go_wp2
 go_ret
 exact ⟨⟨_, rfl⟩, Blk.drewN hL _, by (repeat (first | (with_reducible assumption) | (with_reducible exact Fr.refl _ _) | (with_reducible refine Fr.drew ?_) | (with_reducible refine Fr.drewN ?_ _) | (with_reducible refine Fr.alloc ?_ _) | (with_reducible refine Fr.put ?_ _)))⟩
end Go.Proofs.YtcepdjlknalmnaaGreatDoor
namespace Go.Proofs.YtcepdjlknalmnaaGreatDoor
open Go.RowKit
set_option linter.unusedSimpArgs false
set_option linter.unusedVariables false
def Stops (s : ByteArray) (q r : Nat) : Prop := ∃ c, ByteAt s q c ∧ ((isNl c = true ∧ r = q) ∨ (isNl c = false ∧ isWs c = true ∧ r = q + 1 ∧ ∃ c', ByteAt s (q + 1) c' ∧ isWs c' = false))
def Plain (s : ByteArray) (p q : Nat) : Prop := ∀ k, p ≤ k → k < q → ∃ ch, ByteAt s k ch ∧ isNl ch = false ∧ isWs ch = false
theorem ByteAt.lt {s : ByteArray} {p : Nat} {c : Int} (h : ByteAt s p c) : p < s.size := h.1
theorem Stops.lt {s : ByteArray} {q r : Nat} (h : Stops s q r) : q < s.size := by
 obtain ⟨c, h, _⟩ := h
 exact h.lt
structure Digits (s : ByteArray) (p q : Nat) (V : Nat → Int) : Prop where
 zero : V p = 0
 low : ∀ k, 0 ≤ V k
 high : ∀ k, k ≤ q → V k < 18446744073709551616
 step : ∀ k, p ≤ k → k < q → ∃ e : Int, ByteAt s k (48 + e) ∧ 0 ≤ e ∧ e ≤ 9 ∧ V (k + 1) = V k * 10 + e
def Whole (s : ByteArray) (p q : Nat) : Prop := ∀ k, p ≤ k → k < q → ∃ ch, ByteAt s k ch ∧ isNl ch = false
def LineEnd (s : ByteArray) (q r : Nat) : Prop := (ByteAt s q 10 ∧ r = q + 1) ∨ (ByteAt s q 13 ∧ ByteAt s (q + 1) 10 ∧ r = q + 2)
theorem LineEnd.lt {s : ByteArray} {q r : Nat} (h : LineEnd s q r) : q < s.size ∧ q < r ∧ r ≤ s.size := by
 rcases h with ⟨h, rfl⟩ | ⟨h, h', rfl⟩
 · have := h.lt; omega
 · have := h'.lt; omega
theorem lex_readType (L : Nat) (d c : Value) (s : ByteArray) (p : Nat) (ch : Int) (w : World) (hL : Lx w L d c s p) (hs : WfStr s) (hb : ByteAt s p ch) (hc : isNl ch = false) (hb' : ByteAt s (p + 1) 61) :
 Calls Tryz.prog 141 #[.pointer (some ⟨L, 2, none⟩)] w fun e w' => e = .returned (.tuple #[.int .u8 ch, .nilIface]) ∧ Lx w' L d c s (p + 2) ∧ Fr (fun k => k = L) w w' := by
 go_enter Tryz.func141, Tryz.ntmps141
 go_wp2
 go_loopg [] 1 (fun n wr => n = 1 ∧ wr = w)
 case atStart => exact ⟨rfl, rfl⟩
 case round =>
  obtain ⟨hn, rfl⟩ := hrel
  clear hn
  go_wp2_with (first | (go_at_call 155; (with_reducible refine (lex_isNewline _ _).mono ?_); rintro e w' ⟨rfl, rfl⟩) | (go_at_call 154; (with_reducible refine (lex_readByte L d c s p ch _ hL hb hs).mono ?_); rintro e w1 ⟨rfl, hx1, hf1⟩) | (go_at_call 154; (with_reducible refine (lex_readByte L d c s (p + 1) 61 _ hx1 hb' hs).mono ?_); rintro e w2 ⟨rfl, hx2, hf2⟩))
  go_ret2
  exact ⟨rfl, hx2, hf1.trans (hf2.mono (fun k _ e => .inl e))⟩
theorem lex_readType_end (L : Nat) (d c : Value) (s : ByteArray) (a : Addr) (w : World) (hL : Lx w L d c s s.size) (hs : WfStr s) (hE : Eof w a) :
 Calls Tryz.prog 141 #[.pointer (some ⟨L, 2, none⟩)] w fun e w' => e = .returned (.tuple #[.int .u8 0, .iface 348 (.pointer (some a))]) ∧ Lx w' L d c s s.size ∧ Fr (fun k => k = L) w w' := by
 go_enter Tryz.func141, Tryz.ntmps141
 go_wp2
 go_loopg [] 1 (fun n wr => n = 1 ∧ wr = w)
 case atStart => exact ⟨rfl, rfl⟩
 case round =>
  obtain ⟨hn, rfl⟩ := hrel
  clear hn
  have hnn : ∀ (v : Value) (w : World), (binOp .neq 118 (.iface 348 v) .nilIface).run Tryz.prog w = .ok (.bool true) w := fun v w => by kernel_rfl
  go_wp2_with (first | (go_at_call 154; (with_reducible refine (lex_readByte_end L d c s a _ hL hs hE).mono ?_); rintro e w1 ⟨rfl, hx1, hf1⟩))
  go_ret2
  exact ⟨rfl, hx1, hf1⟩
end Go.Proofs.YtcepdjlknalmnaaGreatDoor

/- Laws of this claim. -/
import Derived.Test.YtcepdjlknalmnaaGreatDoorLsc
import Derived.LaidEql
import Derived.Stop.Asserts
import Derived.RowKitTokens
import Derived.Deep.LoopGhost
import Derived.IntWalk
set_option linter.unusedSimpArgs false
set_option linter.unusedVariables false
namespace Go.Proofs.YtcepdjlknalmnaaGreatDoor
open Tryz
open Lib (hid)
open Go.RowKit
def Blk (w : World) (g : Nat) (l : List Value) (t : TypeId) : Prop := w.heap[g]? = some (.cells l.toArray t (0, 0))
namespace Blk
variable {w w' : World} {g : Nat} {l : List Value} {t : TypeId}
theorem lt (h : Blk w g l t) : g < w.heap.size := by
 rcases Nat.lt_or_ge g w.heap.size with h' | h'
 · exact h'
 unfold Blk at h; simp [Array.getElem?_eq_none h'] at h
theorem cell (h : Blk w g l t) (j : Nat) {u : Value} (hu : l[j]? = some u) : w.cell? ⟨g, j, none⟩ = some u := by
 unfold Blk at h
 simp [World.cell?, h, hu]
theorem fz (h : Blk w g l t) (j : Nat) : w.frozen? ⟨g, j, none⟩ = false := by
 unfold Blk at h
 simp [World.frozen?, h]
theorem fr {S : Nat -> Prop} (h : Blk w g l t) (hf : Fr S w w') (hs : ¬ S g) : Blk w' g l t := (hf.block g h.lt hs).trans h
theorem nw (h : Blk w g l t) (hf : Nw w w') : Blk w' g l t := (hf.block g h.lt).trans h
theorem drewN (h : Blk w g l t) (n : Nat) : Blk (w.drewN n) g l t := h
theorem drew (h : Blk w g l t) : Blk w.drew g l t := h
theorem alloc (h : Blk w g l t) (o : Obj) : Blk (w.alloc o) g l t := h.nw ((Nw.refl w).alloc o)
theorem made (w : World) (l : List Value) (t : TypeId) : Blk (w.alloc (.cells l.toArray t)) w.heap.size l t := heap_alloc_new w _
theorem set (h : Blk w g l t) (j : Nat) (u : Value) : Blk (w.setCell ⟨g, j, none⟩ u) g (l.set j u) t := by
 have hlt := h.lt
 have h' : w.heap[g] = .cells l.toArray t (0, 0) := by
  have := h
  unfold Blk at this
  simpa [Array.getElem?_eq_getElem hlt] using this
 show (w.heap.modify g _)[g]? = _
 rw [Array.getElem?_eq_getElem (by simpa using hlt), Array.getElem_modify_self, h']
 simp [List.setIfInBounds_toArray]
theorem other (h : Blk w g l t) {p : Addr} (hp : ¬ g = p.block) (u : Value) : Blk (w.setCell p u) g l t := by
 unfold Blk
 rw [Below.heap_setCell _ _ _ _ hp]
 exact h
end Blk
theorem Fr.self {w : World} {p : Addr} (u : Value) : Fr (fun k => k = p.block) w (w.setCell p u) := (Fr.refl (fun k => k = p.block) w).setCell (.inl rfl) u
def Eof (w : World) (a : Addr) : Prop := w.cell? ⟨0, 0, none⟩ = some (.iface 348 (.pointer (some a)))
theorem Eof.fr {S : Nat -> Prop} {w w' : World} {a : Addr} (h : Eof w a) (hf : Fr S w w') (hs : ¬ S 0) : Eof w' a := hf.cell (p := ⟨0, 0, none⟩) hs h
theorem Eof.nw {w w' : World} {a : Addr} (h : Eof w a) (hf : Nw w w') : Eof w' a := hf.cell (p := ⟨0, 0, none⟩) h
theorem qN9 (v : Value) (w : World) : (Extern.ReflectliteType.typeOf #[.iface 348 v]).run prog w = .ok (.iface 266 (.agg #[.pointer (some ⟨17, 348, none⟩)])) w := by kernel_rfl
theorem qJs (w : World) : ((Extern.ReflectliteType.method fun t => do Extern.Rtype.noPackHeld "Comparable" t; pure (.bool (<- typeInfo t).comparable)) #[.agg #[.pointer (some ⟨17, 348, none⟩)]]).run prog w = .ok (.bool true) w := by kernel_rfl
theorem qOa (v : Value) (w : World) : (Go.method 482 266 v "Comparable").run prog w = .ok (325, v) w := by kernel_rfl
theorem call325 (w : World) : (callFunc 325 #[.agg #[.pointer (some ⟨17, 348, none⟩)]]).run prog w = .ok (.value (.bool true)) w := by
 have h := @run_callFunc_extern prog 325 _ (Extern.ReflectliteType.method fun t => do Extern.Rtype.noPackHeld "Comparable" t; pure (.bool (<- typeInfo t).comparable)) func325 (by kernel_rfl) (by kernel_rfl) (by kernel_rfl) (by kernel_rfl)
 rw [h, qJs]
 rfl
theorem call156 (v : Value) (w : World) : (callFunc 156 #[.iface 348 v]).run prog w = .ok (.value (.iface 266 (.agg #[.pointer (some ⟨17, 348, none⟩)]))) w := by
 have h := @run_callFunc_extern prog 156 _ Extern.ReflectliteType.typeOf func156 (by kernel_rfl) (by kernel_rfl) (by kernel_rfl) (by kernel_rfl)
 rw [h, qN9]
 rfl
theorem eofComp : (prog.info? 348).map (·.comparable) = some true := by kernel_rfl
theorem eofSize : (prog.info? 350).map (·.size) = some 1 := by kernel_rfl
set_option maxRecDepth 100000 in
theorem qLs (a : Addr) (w : World) :
 Calls prog 142 #[.iface 348 (.pointer (some a)), .iface 348 (.pointer (some a))] w fun e w' => e = .returned (.bool true) /\ w = w' := by
 obtain ⟨i, hi, hcmp⟩ := Option.map_eq_some_iff.1 eofComp
 obtain ⟨j, hj, hjs⟩ := Option.map_eq_some_iff.1 eofSize
 have h8 := call156
 have h32 := call325
 have mR := qOa
 have heq := run_eql_iface_ptr_same (P := prog) w a underlying118 underlying348 hi hcmp hj
 go_enter func142, ntmps142
 go_wp2
 refine wp_loop_rounds 1 ?_
 rw [rounds_succ]
 go_wp2
 go_ret
 exact ⟨rfl, rfl⟩
theorem qFj (a : Addr) (w : World) :
 Calls prog 142 #[.nilIface, .iface 348 (.pointer (some a))] w fun e w' => e = .returned (.bool false) /\ w = w' := by
 have hn := run_eql_iface_nil_left (P := prog) w 348 (.pointer (some a)) underlying118
 go_enter func142, ntmps142
 go_wp2
 go_ret
 exact ⟨rfl, rfl⟩
end Go.Proofs.YtcepdjlknalmnaaGreatDoor
/- The reader's small steps: a byte forth and back, newlines and blanks. -/
namespace Go.Proofs.YtcepdjlknalmnaaGreatDoor
open Tryz
open Lib (hid)
open Go.RowKit
def qAe (s : ByteArray) (p : Nat) (c : Int) : Prop := ∃ h : p < s.size, ((s[p]'h).toNat : Int) = c
def Lx (w : World) (L : Nat) (d c : Value) (s : ByteArray) (p : Nat) : Prop := Blk w L [d, c, .string s, .int .i64 p] 153
theorem Fr.put {L j : Nat} {a w : World} (h : Fr (fun k => k = L) a w) (u : Value) : Fr (fun k => k = L) a (w.setCell ⟨L, j, none⟩ u) := h.setCell (.inl rfl) u
theorem qJt {a b a' b' : Value} (h : a = a') (k : b = b') : Ending.returned (.tuple #[a, b]) = .returned (.tuple #[a', b']) := by rw [h, k]
theorem Lx.put {w : World} {L : Nat} {d c : Value} {s : ByteArray} {p p' : Nat} {q : Int} (h : Lx w L d c s p) (hq : q = (p' : Int)) : Lx (w.setCell ⟨L, 3, none⟩ (.int .i64 q)) L d c s p' := by
 subst hq
 exact Blk.set h 3 _
theorem Lx.fr {S : Nat -> Prop} {w w' : World} {L : Nat} {d c : Value} {s : ByteArray} {p : Nat} (h : Lx w L d c s p) (hf : Fr S w w') (hs : ¬ S L) : Lx w' L d c s p := Blk.fr h hf hs
theorem Lx.nw {w w' : World} {L : Nat} {d c : Value} {s : ByteArray} {p : Nat} (h : Lx w L d c s p) (hf : Nw w w') : Lx w' L d c s p := Blk.nw h hf
def qDm (c : Int) : Bool := (c == 10) || (c == 13)
def qNn (c : Int) : Bool := (c == 32) || (c == 9)
theorem qBu (c : Int) (w : World) : Calls prog 155 #[.int .u8 c] w fun e w' => e = .returned (.bool (qDm c)) /\ w = w' := by
 go_enter func155, ntmps155
 by_cases h1 : (c == 10) = true
 · go_wp2
   go_ret
   exact ⟨qAa (by unfold qDm; rw [h1]; rfl), rfl⟩
 have h1' : (c == 10) = false := by simpa using h1
 clear h1
 by_cases h2 : (c == 13) = true
 · go_wp2
   go_ret
   exact ⟨qAa (by unfold qDm; rw [h1', h2]; rfl), rfl⟩
 have h2' : (c == 13) = false := by simpa using h2
 clear h2
 go_wp2
 go_ret
 exact ⟨qAa (by unfold qDm; rw [h1', h2']; rfl), rfl⟩
theorem qBs (c : Int) (w : World) : Calls prog 159 #[.int .u8 c] w fun e w' => e = .returned (.bool (qNn c)) /\ w = w' := by
 go_enter func159, ntmps159
 by_cases h1 : (c == 32) = true
 · go_wp2
   go_ret
   exact ⟨qAa (by unfold qNn; rw [h1]; rfl), rfl⟩
 have h1' : (c == 32) = false := by simpa using h1
 clear h1
 by_cases h2 : (c == 9) = true
 · go_wp2
   go_ret
   exact ⟨qAa (by unfold qNn; rw [h1', h2]; rfl), rfl⟩
 have h2' : (c == 9) = false := by simpa using h2
 clear h2
 go_wp2
 go_ret
 exact ⟨qAa (by unfold qNn; rw [h1', h2']; rfl), rfl⟩
set_option maxRecDepth 100000 in
theorem qA0 (L : Nat) (d c : Value) (s : ByteArray) (p : Nat) (ch : Int) (w : World) (hL : Lx w L d c s p) (hch : qAe s p ch) (hs : qAb s) :
 Calls prog 154 #[.pointer (some ⟨L, 2, none⟩)] w fun e w' => e = .returned (.tuple #[.int .u8 ch, .nilIface]) /\ Lx w' L d c s (p + 1) /\ Fr (fun k => k = L) w w' := by
 obtain ⟨hp, hc0⟩ := hch
 have hc := hid hc0
 clear hc0
 have hm : s.size <= 1152921504606846976 := hs
 have l2 := Blk.cell hL 2 rfl
 have l3 := Blk.cell hL 3 rfl
 have f3 := Blk.fz hL 3
 have hpi : (p : Int) < (s.size : Int) := by omega
 have hp0 : (0 : Int) <= (p : Int) := by omega
 have hd : decide (s.size <= p) = false := by simp; omega
 go_enter func154, ntmps154
 go_wp2
 go_quiet (fail)
 go_wp2
 go_quiet (fail)
 go_wp2
 go_ret2
 exact ⟨qJt (congrArg (Value.int .u8) hc.out) rfl, Lx.put (Blk.drewN hL _) (by omega), by (apply_rules [Fr.refl, Fr.drew, Fr.drewN, Fr.alloc, Fr.put])⟩
set_option maxRecDepth 100000 in
theorem qDu (L : Nat) (d c : Value) (s : ByteArray) (a : Addr) (w : World) (hL : Lx w L d c s s.size) (hs : qAb s) (hE : Eof w a) :
 Calls prog 154 #[.pointer (some ⟨L, 2, none⟩)] w fun e w' => e = .returned (.tuple #[.int .u8 0, .iface 348 (.pointer (some a))]) /\ Lx w' L d c s s.size /\ Fr (fun k => k = L) w w' := by
 have hm : s.size <= 1152921504606846976 := hs
 have l2 := Blk.cell hL 2 rfl
 have l3 := Blk.cell hL 3 rfl
 have g0 : w.cell? ⟨0, 0, none⟩ = some (.iface 348 (.pointer (some a))) := hE
 go_enter func154, ntmps154
 go_wp2
 go_quiet (fail)
 go_wp2
 go_quiet (fail)
 go_wp2
 go_ret2
 exact ⟨rfl, Blk.drewN (Blk.drewN hL _) _, by (apply_rules [Fr.refl, Fr.drew, Fr.drewN, Fr.alloc, Fr.put])⟩
theorem qDn (L : Nat) (d c : Value) (s : ByteArray) (p : Nat) (w : World) (hL : Lx w L d c s (p + 1)) (hs : qAb s) (hp : p < s.size) :
 Calls prog 158 #[.pointer (some ⟨L, 2, none⟩)] w fun e w' => e = .returned .nilIface /\ Lx w' L d c s p /\ Fr (fun k => k = L) w w' := by
 have hm : s.size <= 1152921504606846976 := hs
 have l3 := Blk.cell hL 3 rfl
 have f3 := Blk.fz hL 3
 obtain ⟨q, hq⟩ : ∃ q : Int, q = ((p + 1 : Nat) : Int) := ⟨_, rfl⟩
 rw [<- hq] at l3
 have h1 : (0 : Int) < q := by omega
 have h2 : q <= 1152921504606846976 := by omega
 have HQ := hid hq
 clear hq
 go_enter func158, ntmps158
 go_wp2
 go_ret
 exact ⟨rfl, Lx.put hL (by have := HQ.out; omega), by (apply_rules [Fr.refl, Fr.drew, Fr.drewN, Fr.alloc, Fr.put])⟩
theorem qEl (v : Value) (s : ByteArray) (w : World) : Calls prog 198 #[v, .string s] w fun e w' => e = .returned (.string s) /\ w = w' := by
 go_enter func198, ntmps198
 go_wp2
 go_ret
 exact ⟨rfl, rfl⟩
set_option maxRecDepth 100000 in
theorem qH9 (L : Nat) (d c : Value) (s : ByteArray) (p : Nat) (w : World) (hL : Lx w L d c s p) (hs : qAb s) (hp : p <= s.size) :
 Calls prog 143 #[.pointer (some ⟨L, 2, none⟩)] w fun e w' => (∃ v, e = .returned (.iface 250 v)) /\ Lx w' L d c s p /\ Fr (fun k => k = L) w w' := by
 have hm : s.size <= 1152921504606846976 := hs
 have l2 := Blk.cell hL 2 rfl
 have l3 := Blk.cell hL 3 rfl
 have h0 : IntKind.i64.wrap ((p : Int) - 1) = (p : Int) - 1 := IntWalk.i64_in _ (by omega)
 go_enter func143, ntmps143
 go_wp2
 go_quiet (fail)
 go_wp2
 go_ret
 exact ⟨⟨_, rfl⟩, Blk.drewN hL _, by (apply_rules [Fr.refl, Fr.drew, Fr.drewN, Fr.alloc, Fr.put])⟩
theorem qCe (L : Nat) (d c : Value) (s : ByteArray) (p q : Nat) (a : Addr) (w : World) (hL : Lx w L d c s p) (hs : qAb s) (hE : Eof w a) (hL0 : ¬ L = 0) (hpq : p <= q) (hq : q <= s.size)
 (hnl : ∀ k, p <= k -> k < q -> ∃ ch, qAe s k ch /\ qDm ch = true) (hend : q < s.size -> ∃ ch, qAe s q ch /\ qDm ch = false) :
 Calls prog 145 #[.pointer (some ⟨L, 2, none⟩)] w fun e w' => e = .returned .nilIface /\ Lx w' L d c s q /\ Fr (fun k => k = L) w w' := by
 have HN := hid hnl
 have HE := hid hend
 clear hnl hend
 go_enter func145, ntmps145
 go_wp2
 go_loopg [] (q - p) (fun n wr => ∃ k, n = q - k /\ p <= k /\ k <= q /\ Lx wr L d c s k /\ Fr (fun k => k = L) w wr)
 case atStart => exact ⟨p, rfl, Nat.le_refl _, hpq, hL, Fr.refl _ _⟩
 obtain ⟨k, hn, h1, h2, hx, hf⟩ := hrel
 have HK := hid hn
 clear hn
 have hE1 : Eof wr a := hE.fr hf (fun e => hL0 e.symm)
 by_cases hlt : k < q
 · obtain ⟨ch, hb, hc⟩ := HN.out k h1 hlt
   go_wp2_with (first | (go_at_call 154; (with_reducible refine (qA0 L d c s k ch _ hx hb hs).mono ?_); rintro e w1 ⟨rfl, hx1, hf1⟩; have g1 : w1.cell? ⟨0, 0, none⟩ = some (.iface 348 (.pointer (some a))) := hE1.fr hf1 (fun e => hL0 e.symm)) | (go_at_call 142; (with_reducible refine (qFj a _).mono ?_); rintro e w' ⟨rfl, rfl⟩) | (go_at_call 155; (with_reducible refine (qBu ch _).mono ?_); rintro e w' ⟨rfl, rfl⟩))
   go_roundg (q - (k + 1))
   case measure => have := HK.out; omega
   case rel => exact ⟨k + 1, rfl, by omega, by omega, hx1, hf.trans (hf1.mono (fun k _ e => .inl e))⟩
 obtain rfl : k = q := by omega
 by_cases he : k < s.size
 · obtain ⟨ch, hb, hc⟩ := HE.out he
   go_wp2_with (first | (go_at_call 154; (with_reducible refine (qA0 L d c s k ch _ hx hb hs).mono ?_); rintro e w1 ⟨rfl, hx1, hf1⟩; have g1 : w1.cell? ⟨0, 0, none⟩ = some (.iface 348 (.pointer (some a))) := hE1.fr hf1 (fun e => hL0 e.symm)) | (go_at_call 142; (with_reducible refine (qFj a _).mono ?_); rintro e w' ⟨rfl, rfl⟩) | (go_at_call 155; (with_reducible refine (qBu ch _).mono ?_); rintro e w' ⟨rfl, rfl⟩) | (go_at_call 158; (with_reducible refine (qDn L d c s k _ hx1 hs he).mono ?_); rintro e w2 ⟨rfl, hx2, hf2⟩))
   go_ret
   exact ⟨rfl, hx2, (hf.trans (hf1.mono (fun k _ e => .inl e))).trans (hf2.mono (fun k _ e => .inl e))⟩
 obtain rfl : k = s.size := by omega
 go_wp2_with (first | (go_at_call 154; (with_reducible refine (qDu L d c s a _ hx hs hE1).mono ?_); rintro e w1 ⟨rfl, hx1, hf1⟩; have g1 : w1.cell? ⟨0, 0, none⟩ = some (.iface 348 (.pointer (some a))) := hE1.fr hf1 (fun e => hL0 e.symm)) | (go_at_call 142; (with_reducible refine (qLs a _).mono ?_); rintro e w' ⟨rfl, rfl⟩))
 go_ret
 exact ⟨rfl, hx1, hf.trans (hf1.mono (fun k _ e => .inl e))⟩
theorem qEc (L : Nat) (d c : Value) (s : ByteArray) (p q : Nat) (a : Addr) (w : World) (hL : Lx w L d c s p) (hs : qAb s) (hE : Eof w a) (hL0 : ¬ L = 0) (hpq : p <= q) (hq : q <= s.size)
 (hnl : ∀ k, p <= k -> k < q -> ∃ ch, qAe s k ch /\ qNn ch = true) (hend : q < s.size -> ∃ ch, qAe s q ch /\ qNn ch = false) :
 Calls prog 160 #[.pointer (some ⟨L, 2, none⟩)] w fun e w' => e = .returned .nilIface /\ Lx w' L d c s q /\ Fr (fun k => k = L) w w' := by
 have HN := hid hnl
 have HE := hid hend
 clear hnl hend
 go_enter func160, ntmps160
 go_wp2
 go_loopg [] (q - p) (fun n wr => ∃ k, n = q - k /\ p <= k /\ k <= q /\ Lx wr L d c s k /\ Fr (fun k => k = L) w wr)
 case atStart => exact ⟨p, rfl, Nat.le_refl _, hpq, hL, Fr.refl _ _⟩
 obtain ⟨k, hn, h1, h2, hx, hf⟩ := hrel
 have HK := hid hn
 clear hn
 have hE1 : Eof wr a := hE.fr hf (fun e => hL0 e.symm)
 by_cases hlt : k < q
 · obtain ⟨ch, hb, hc⟩ := HN.out k h1 hlt
   go_wp2_with (first | (go_at_call 154; (with_reducible refine (qA0 L d c s k ch _ hx hb hs).mono ?_); rintro e w1 ⟨rfl, hx1, hf1⟩; have g1 : w1.cell? ⟨0, 0, none⟩ = some (.iface 348 (.pointer (some a))) := hE1.fr hf1 (fun e => hL0 e.symm)) | (go_at_call 142; (with_reducible refine (qFj a _).mono ?_); rintro e w' ⟨rfl, rfl⟩) | (go_at_call 159; (with_reducible refine (qBs ch _).mono ?_); rintro e w' ⟨rfl, rfl⟩))
   go_roundg (q - (k + 1))
   case measure => have := HK.out; omega
   case rel => exact ⟨k + 1, rfl, by omega, by omega, hx1, hf.trans (hf1.mono (fun k _ e => .inl e))⟩
 obtain rfl : k = q := by omega
 by_cases he : k < s.size
 · obtain ⟨ch, hb, hc⟩ := HE.out he
   go_wp2_with (first | (go_at_call 154; (with_reducible refine (qA0 L d c s k ch _ hx hb hs).mono ?_); rintro e w1 ⟨rfl, hx1, hf1⟩; have g1 : w1.cell? ⟨0, 0, none⟩ = some (.iface 348 (.pointer (some a))) := hE1.fr hf1 (fun e => hL0 e.symm)) | (go_at_call 142; (with_reducible refine (qFj a _).mono ?_); rintro e w' ⟨rfl, rfl⟩) | (go_at_call 159; (with_reducible refine (qBs ch _).mono ?_); rintro e w' ⟨rfl, rfl⟩) | (go_at_call 158; (with_reducible refine (qDn L d c s k _ hx1 hs he).mono ?_); rintro e w2 ⟨rfl, hx2, hf2⟩))
   go_ret
   exact ⟨rfl, hx2, (hf.trans (hf1.mono (fun k _ e => .inl e))).trans (hf2.mono (fun k _ e => .inl e))⟩
 obtain rfl : k = s.size := by omega
 go_wp2_with (first | (go_at_call 154; (with_reducible refine (qDu L d c s a _ hx hs hE1).mono ?_); rintro e w1 ⟨rfl, hx1, hf1⟩; have g1 : w1.cell? ⟨0, 0, none⟩ = some (.iface 348 (.pointer (some a))) := hE1.fr hf1 (fun e => hL0 e.symm)) | (go_at_call 142; (with_reducible refine (qLs a _).mono ?_); rintro e w' ⟨rfl, rfl⟩))
 go_ret
 exact ⟨rfl, hx1, hf.trans (hf1.mono (fun k _ e => .inl e))⟩
end Go.Proofs.YtcepdjlknalmnaaGreatDoor

/- What each kind of line's body adds to a growing text. Written by a small program of this claim's own (geninto). -/
import Derived.Test.YtcepdjlknalmnaaGreatDoorBuf
import Derived.Test.YtcepdjlknalmnaaGreatDoorBwA
import Derived.Test.YtcepdjlknalmnaaGreatDoorSrow
import Derived.Test.YtcepdjlknalmnaaGreatDoorOrd
set_option linter.unusedSimpArgs false
set_option linter.unusedVariables false
namespace Go.Proofs.YtcepdjlknalmnaaGreatDoor
open Tryz
open List (length_append length_cons length_nil append_assoc cons_append nil_append)
open Lib (itoa decDigits)
open Go.RowKit
attribute [local go_sem ↓] Go.wp_at_zero Go.wp_at_succ
def Gd (B : Nat) (w : World) : Prop := B <= w.heap.size /\ Lib.TabBelow prog B w "internal/strconv.uint64pow10" .u64 Lib.pow10Tab
theorem Gd.le {B : Nat} {w : World} (h : Gd B w) : B <= w.heap.size := h.1
theorem Gd.on {B : Nat} {b : Option Nat} {w w' : World} (h : Gd B w) (m : Mk B b w w') : Gd B w' := ⟨m.le h.1, h.2.on m.1⟩
def qBh (B : Nat) (w : World) (l t : List UInt8) (e : Ending) (w' : World) : Prop := ∃ v', e = .returned v' /\ Buf w' B v' (l ++ t) /\ Mk B none w w'
theorem qQ2 {P : Program} {o : Oper} {a : Act} {Q : Exit -> Act -> World -> Prop} {K : Act -> World -> Prop} {W : World} (B : Nat) (s x : Operand) (t : TypeId) (ho : o.op = .call { callee := .builtin .append, args := #[s, x], argTypes := #[t, t] })
 (ht : P.underlying t = some (.slice 5)) (hinfo : (P.info? 5).map (fun i => (i.zero, i.size, i.bytes)) = some (some (.int .u8 0), 1, 1))
 (v : Value) (l : List UInt8) (c : UInt8) (g : Nat) (hs : a.eval s = v) (hx : a.eval x = .slice (some ⟨g, 0, none⟩) 1 1) (hc : W.cell? ⟨g, 0, none⟩ = some (.int .u8 (c.toNat : Int))) (hb : Buf W B v l) (hB : B <= W.heap.size) (hl : l.length + 1 <= 140737488355328)
 (h : ∀ v' w', Buf w' B v' (l ++ [c]) -> Mk B none W w' -> K (a.put o.dst v') w') : o.wp P a W K Q := by
 obtain ⟨i0, hi, hzz⟩ := Option.map_eq_some_iff.1 hinfo
 simp only [Prod.mk.injEq] at hzz
 obtain ⟨hz0, hz1, hz2⟩ := hzz
 refine qDo W s x t ho B 5 i0 (.int .u8 0) 1 1 ht hi hz0 hz1 hz2 rfl (by decide) v l.length (Lib.byteCells l) hs hb ⟨g, 0, none⟩ 1 1 [.int .u8 (c.toNat : Int)] hx rfl
  (fun j u hj => ?_) (fun u hu => by rw [List.mem_singleton.1 hu]; rfl) (by simp only [maxLen]; omega) (by omega) hB ?_
 · match j, hj with
   | 0, hj =>
    obtain rfl : _ = u := by simpa using hj
    rw [qE1]
    exact hc
   | j + 1, hj => simp at hj
 intro v1 w1 hown hg hat
 refine h v1 w1 ?_ (hb.mk hB hg)
 unfold Buf
 rw [qFv, length_append]
 exact hown
theorem qDa : (prog.info? 5).map (fun i => (i.zero, i.size, i.bytes)) = some (some (.int .u8 0), 1, 1) := by kernel_rfl
theorem qAf (s : ByteArray) : (s.data.toList).length = s.size := rfl
theorem qM5 {n : Int} (h : qAg .u64 n) : 0 <= n /\ n < 18446744073709551616 := by
 have e1 : (IntKind.min .u64 : Int) = 0 := by decide
 have e2 : (IntKind.max .u64 : Int) = 18446744073709551615 := by decide
 have h1 := h.1
 have h2 := h.2
 rw [e1] at h1
 rw [e2] at h2
 omega
theorem qDw (B : Nat) (i : Int) (v : Value) (l : List UInt8) (w : World) (hb : Buf w B v l) (hg : Gd B w) (hi : qAg .i64 i) (hl : l.length + 21 <= 140737488355328) :
 Calls prog 126 #[v, .int .i64 i, .int .i64 10] w (qBh B w l ((itoa i))) := by
 refine (Tryz.strconv_AppendInt_10 B l.length i hi.1 hi.2 v _ w hb hg.1 hl hg.2).mono ?_
 rintro e w' ⟨v', rfl, h1, h2, h3⟩
 refine ⟨v', rfl, ?_, h2, h3⟩
 unfold Buf
 rw [qFv, length_append]
 exact h1
theorem qFd (B : Nat) (i : Int) (v : Value) (l : List UInt8) (w : World) (hb : Buf w B v l) (hg : Gd B w) (hi : qAg .u64 i) (hl : l.length + 20 <= 140737488355328) :
 Calls prog 127 #[v, .int .u64 i, .int .i64 10] w (qBh B w l ((decDigits (Int.toNat i)))) := by
 obtain ⟨u, rfl⟩ : ∃ u : Nat, i = u := ⟨i.toNat, by have := (qM5 hi).1; omega⟩
 have hu : u < 18446744073709551616 := by have := (qM5 hi).2; omega
 have HC := Lib.hid (Tryz.internal_strconv_AppendUint_10 B l.length u hu v _ w hb hg.1 hl hg.2.here)
 go_enter func127, ntmps127
 go_wp2_with (go_at_call 148; (with_reducible refine HC.out.mono ?_); rintro e w1 ⟨v1, rfl, h1, h2, h3⟩)
 go_ret
 refine ⟨v1, rfl, ?_, h2, h3⟩
 unfold Buf
 rw [qFv, length_append]
 exact h1
set_option maxRecDepth 100000 in
theorem qQ3 (B : Nat) (s : ByteArray) (v : Value) (l : List UInt8) (w : World) (hb0 : Buf w B v l) (hg : Gd B w) (hl : l.length + (bs s).length + 64 <= 140737488355328) :
 Calls prog 89 #[.string s, v] w (qBh B w l (bs s)) := by
 have q0 := Mk.refl B none w
 go_enter func89, ntmps89
 go_wp2_with (first
  | (refine qAc rfl fun K hK => ?_; (with_reducible refine qA9 B (.tmp 5) (.tmp 6) 128 102 ?_ underlying128 underlying102 qDa _ _ s ?_ ?_ hb0 (q0.le (Gd.le hg)) ?_ ?_); (focus rfl); (focus rfl); (focus rfl); (focus ((try simp only [length_append, length_cons, length_nil, qAf] at hl ⊢); omega)); intro v1 w1 hb1 hm1; refine hK _ _ ?_; have q1 := q0.trans hm1))
 go_ret
 exact ⟨_, rfl, hb1, q1⟩
set_option maxRecDepth 100000 in
theorem qQ4 (B : Nat) (s : ByteArray) (v : Value) (l : List UInt8) (w : World) (hb0 : Buf w B v l) (hg : Gd B w) (hl : l.length + (bs s).length + 64 <= 140737488355328) :
 Calls prog 90 #[.string s, v] w (qBh B w l (bs s)) := by
 have q0 := Mk.refl B none w
 go_enter func90, ntmps90
 go_wp2_with (first
  | (refine qAc rfl fun K hK => ?_; (with_reducible refine qA9 B (.tmp 5) (.tmp 6) 128 162 ?_ underlying128 underlying162 qDa _ _ s ?_ ?_ hb0 (q0.le (Gd.le hg)) ?_ ?_); (focus rfl); (focus rfl); (focus rfl); (focus ((try simp only [length_append, length_cons, length_nil, qAf] at hl ⊢); omega)); intro v1 w1 hb1 hm1; refine hK _ _ ?_; have q1 := q0.trans hm1))
 go_ret
 exact ⟨_, rfl, hb1, q1⟩
set_option maxRecDepth 100000 in
theorem qQ5 (B : Nat) (s : ByteArray) (v : Value) (l : List UInt8) (w : World) (hb0 : Buf w B v l) (hg : Gd B w) (hl : l.length + (bs s).length + 64 <= 140737488355328) :
 Calls prog 92 #[.string s, v] w (qBh B w l (bs s)) := by
 have q0 := Mk.refl B none w
 go_enter func92, ntmps92
 go_wp2_with (first
  | (refine qAc rfl fun K hK => ?_; (with_reducible refine qA9 B (.tmp 5) (.tmp 6) 128 165 ?_ underlying128 underlying165 qDa _ _ s ?_ ?_ hb0 (q0.le (Gd.le hg)) ?_ ?_); (focus rfl); (focus rfl); (focus rfl); (focus ((try simp only [length_append, length_cons, length_nil, qAf] at hl ⊢); omega)); intro v1 w1 hb1 hm1; refine hK _ _ ?_; have q1 := q0.trans hm1))
 go_ret
 exact ⟨_, rfl, hb1, q1⟩
set_option maxRecDepth 100000 in
theorem qNz (B : Nat) (s : ByteArray) (v : Value) (l : List UInt8) (w : World) (hb0 : Buf w B v l) (hg : Gd B w) (hl : l.length + (bs s).length + 64 <= 140737488355328) :
 Calls prog 93 #[.string s, v] w (qBh B w l (bs s)) := by
 have q0 := Mk.refl B none w
 go_enter func93, ntmps93
 go_wp2_with (first
  | (refine qAc rfl fun K hK => ?_; (with_reducible refine qA9 B (.tmp 5) (.tmp 6) 128 167 ?_ underlying128 underlying167 qDa _ _ s ?_ ?_ hb0 (q0.le (Gd.le hg)) ?_ ?_); (focus rfl); (focus rfl); (focus rfl); (focus ((try simp only [length_append, length_cons, length_nil, qAf] at hl ⊢); omega)); intro v1 w1 hb1 hm1; refine hK _ _ ?_; have q1 := q0.trans hm1))
 go_ret
 exact ⟨_, rfl, hb1, q1⟩
set_option maxRecDepth 100000 in
theorem into_key (B : Nat) (s : ByteArray) (v : Value) (l : List UInt8) (w : World) (hb0 : Buf w B v l) (hg : Gd B w) (hl : l.length + (bs s).length + 64 <= 140737488355328) :
 Calls prog 99 #[.string s, v] w (qBh B w l (bs s)) := by
 have q0 := Mk.refl B none w
 go_enter func99, ntmps99
 go_wp2_with (first
  | (refine qAc rfl fun K hK => ?_; (with_reducible refine qA9 B (.tmp 5) (.tmp 6) 128 171 ?_ underlying128 underlying171 qDa _ _ s ?_ ?_ hb0 (q0.le (Gd.le hg)) ?_ ?_); (focus rfl); (focus rfl); (focus rfl); (focus ((try simp only [length_append, length_cons, length_nil, qAf] at hl ⊢); omega)); intro v1 w1 hb1 hm1; refine hK _ _ ?_; have q1 := q0.trans hm1))
 go_ret
 exact ⟨_, rfl, hb1, q1⟩
set_option maxRecDepth 100000 in
theorem into_ver (B : Nat) (i : Int) (v : Value) (l : List UInt8) (w : World) (hb0 : Buf w B v l) (hg : Gd B w) (hi : qAg .i64 i) (hl : l.length + ((itoa i)).length + 64 <= 140737488355328) :
 Calls prog 87 #[.int .i64 i, v] w (qBh B w l ((itoa i))) := by
 have q0 := Mk.refl B none w
 go_enter func87, ntmps87
 go_wp2_with (first
  | (go_at_call 126; (with_reducible refine (qDw B i _ _ _ hb0 (hg.on q0) hi ?_).mono ?_); (focus ((try simp only [length_append, length_cons, length_nil, qAf] at hl ⊢); omega)); rintro e w1 ⟨v1, rfl, hb1, hm1⟩; have q1 := q0.trans hm1))
 go_ret
 exact ⟨_, rfl, hb1, q1⟩
set_option maxRecDepth 100000 in
theorem into_org (B : Nat) (x : Org) (v : Value) (l : List UInt8) (w : World) (hb : Buf w B v l) (hg : Gd B w) (h1 : qAg .u64 x.id) (h2 : qAg .u64 x.ver) (hl : l.length + (bs x.user ++ (32 :: ((decDigits (Int.toNat x.id)) ++ (32 :: ((decDigits (Int.toNat x.ver)) ++ (32 :: (bs x.net ++ (32 :: (bs x.addr ++ (32 :: bs x.adr)))))))))).length + 64 <= 140737488355328) :
 Calls prog 88 #[.agg #[.string x.user, .int .u64 x.id, .int .u64 x.ver, .string x.net, .string x.addr, .string x.adr], v] w (qBh B w l (bs x.user ++ (32 :: ((decDigits (Int.toNat x.id)) ++ (32 :: ((decDigits (Int.toNat x.ver)) ++ (32 :: (bs x.net ++ (32 :: (bs x.addr ++ (32 :: bs x.adr))))))))))) := by
 obtain ⟨g, hgg⟩ : ∃ g, g = w.heap.size := ⟨_, rfl⟩
 obtain ⟨w0, hw0⟩ : ∃ w0, w0 = w.alloc (.cells #[.string x.user, .int .u64 x.id, .int .u64 x.ver, .string x.net, .string x.addr, .string x.adr] 101) := ⟨_, rfl⟩
 have q0 : Mk B none w w0 := by rw [hw0]; exact (Mk.refl _ _ _).alloc hg.1 _
 have H0 : Blk w0 g [.string x.user, .int .u64 x.id, .int .u64 x.ver, .string x.net, .string x.addr, .string x.adr] 101 := by rw [hw0, hgg]; exact Blk.made w _ 101
 have hb0 : Buf w0 B v l := by rw [hw0]; exact hb.alloc _
 have c0_0 := H0.cell 0 rfl
 have c0_1 := H0.cell 1 rfl
 have c0_2 := H0.cell 2 rfl
 have c0_3 := H0.cell 3 rfl
 have c0_4 := H0.cell 4 rfl
 have c0_5 := H0.cell 5 rfl
 go_enter func88, ntmps88
 go_upto_region 1 with fail
 rw [<- hw0, <- hgg]
 clear hw0 hgg
 go_wp2_with (first
  | (refine qAc rfl fun K hK => ?_; (with_reducible refine qA9 B (.tmp 5) (.tmp 7) 128 9 ?_ underlying128 underlying9 qDa _ _ x.user ?_ ?_ hb0 (q0.le (Gd.le hg)) ?_ ?_); (focus rfl); (focus rfl); (focus rfl); (focus ((try simp only [length_append, length_cons, length_nil, qAf] at hl ⊢); omega)); intro v1 w1 hb1 hm1; refine hK _ _ ?_; have q1 := q0.trans hm1; have H1 := hm1.blk H0 (by decide) (by simp); have c1_0 := H1.cell 0 rfl; have c1_1 := H1.cell 1 rfl; have c1_2 := H1.cell 2 rfl; have c1_3 := H1.cell 3 rfl; have c1_4 := H1.cell 4 rfl; have c1_5 := H1.cell 5 rfl)
  | (refine qAc rfl fun K hK => ?_; (with_reducible refine qBe B (.tmp 8) (.tmp 9) 128 ?_ underlying128 qDa _ _ (32 : UInt8) 32 ?_ ?_ ?_ hb1 (q1.le (Gd.le hg)) ?_ ?_); (focus rfl); (focus rfl); (focus rfl); (focus rfl); (focus ((try simp only [length_append, length_cons, length_nil, qAf] at hl ⊢); omega)); intro v2 w2 hb2 hm2; refine hK _ _ ?_; have q2 := q1.trans hm2; have H2 := hm2.blk H1 (by decide) (by simp); have c2_0 := H2.cell 0 rfl; have c2_1 := H2.cell 1 rfl; have c2_2 := H2.cell 2 rfl; have c2_3 := H2.cell 3 rfl; have c2_4 := H2.cell 4 rfl; have c2_5 := H2.cell 5 rfl)
  | (go_at_call 127; (with_reducible refine (qFd B x.id _ _ _ hb2 (hg.on q2) h1 ?_).mono ?_); (focus ((try simp only [length_append, length_cons, length_nil, qAf] at hl ⊢); omega)); rintro e w3 ⟨v3, rfl, hb3, hm3⟩; have q3 := q2.trans hm3; have H3 := hm3.blk H2 (by decide) (by simp); have c3_0 := H3.cell 0 rfl; have c3_1 := H3.cell 1 rfl; have c3_2 := H3.cell 2 rfl; have c3_3 := H3.cell 3 rfl; have c3_4 := H3.cell 4 rfl; have c3_5 := H3.cell 5 rfl)
  | (refine qAc rfl fun K hK => ?_; (with_reducible refine qBe B (.tmp 14) (.tmp 15) 128 ?_ underlying128 qDa _ _ (32 : UInt8) 32 ?_ ?_ ?_ hb3 (q3.le (Gd.le hg)) ?_ ?_); (focus rfl); (focus rfl); (focus rfl); (focus rfl); (focus ((try simp only [length_append, length_cons, length_nil, qAf] at hl ⊢); omega)); intro v4 w4 hb4 hm4; refine hK _ _ ?_; have q4 := q3.trans hm4; have H4 := hm4.blk H3 (by decide) (by simp); have c4_0 := H4.cell 0 rfl; have c4_1 := H4.cell 1 rfl; have c4_2 := H4.cell 2 rfl; have c4_3 := H4.cell 3 rfl; have c4_4 := H4.cell 4 rfl; have c4_5 := H4.cell 5 rfl)
  | (go_at_call 127; (with_reducible refine (qFd B x.ver _ _ _ hb4 (hg.on q4) h2 ?_).mono ?_); (focus ((try simp only [length_append, length_cons, length_nil, qAf] at hl ⊢); omega)); rintro e w5 ⟨v5, rfl, hb5, hm5⟩; have q5 := q4.trans hm5; have H5 := hm5.blk H4 (by decide) (by simp); have c5_0 := H5.cell 0 rfl; have c5_1 := H5.cell 1 rfl; have c5_2 := H5.cell 2 rfl; have c5_3 := H5.cell 3 rfl; have c5_4 := H5.cell 4 rfl; have c5_5 := H5.cell 5 rfl)
  | (refine qAc rfl fun K hK => ?_; (with_reducible refine qBe B (.tmp 20) (.tmp 21) 128 ?_ underlying128 qDa _ _ (32 : UInt8) 32 ?_ ?_ ?_ hb5 (q5.le (Gd.le hg)) ?_ ?_); (focus rfl); (focus rfl); (focus rfl); (focus rfl); (focus ((try simp only [length_append, length_cons, length_nil, qAf] at hl ⊢); omega)); intro v6 w6 hb6 hm6; refine hK _ _ ?_; have q6 := q5.trans hm6; have H6 := hm6.blk H5 (by decide) (by simp); have c6_0 := H6.cell 0 rfl; have c6_1 := H6.cell 1 rfl; have c6_2 := H6.cell 2 rfl; have c6_3 := H6.cell 3 rfl; have c6_4 := H6.cell 4 rfl; have c6_5 := H6.cell 5 rfl)
  | (refine qAc rfl fun K hK => ?_; (with_reducible refine qA9 B (.tmp 23) (.tmp 25) 128 9 ?_ underlying128 underlying9 qDa _ _ x.net ?_ ?_ hb6 (q6.le (Gd.le hg)) ?_ ?_); (focus rfl); (focus rfl); (focus rfl); (focus ((try simp only [length_append, length_cons, length_nil, qAf] at hl ⊢); omega)); intro v7 w7 hb7 hm7; refine hK _ _ ?_; have q7 := q6.trans hm7; have H7 := hm7.blk H6 (by decide) (by simp); have c7_0 := H7.cell 0 rfl; have c7_1 := H7.cell 1 rfl; have c7_2 := H7.cell 2 rfl; have c7_3 := H7.cell 3 rfl; have c7_4 := H7.cell 4 rfl; have c7_5 := H7.cell 5 rfl)
  | (refine qAc rfl fun K hK => ?_; (with_reducible refine qBe B (.tmp 26) (.tmp 27) 128 ?_ underlying128 qDa _ _ (32 : UInt8) 32 ?_ ?_ ?_ hb7 (q7.le (Gd.le hg)) ?_ ?_); (focus rfl); (focus rfl); (focus rfl); (focus rfl); (focus ((try simp only [length_append, length_cons, length_nil, qAf] at hl ⊢); omega)); intro v8 w8 hb8 hm8; refine hK _ _ ?_; have q8 := q7.trans hm8; have H8 := hm8.blk H7 (by decide) (by simp); have c8_0 := H8.cell 0 rfl; have c8_1 := H8.cell 1 rfl; have c8_2 := H8.cell 2 rfl; have c8_3 := H8.cell 3 rfl; have c8_4 := H8.cell 4 rfl; have c8_5 := H8.cell 5 rfl)
  | (refine qAc rfl fun K hK => ?_; (with_reducible refine qA9 B (.tmp 29) (.tmp 31) 128 9 ?_ underlying128 underlying9 qDa _ _ x.addr ?_ ?_ hb8 (q8.le (Gd.le hg)) ?_ ?_); (focus rfl); (focus rfl); (focus rfl); (focus ((try simp only [length_append, length_cons, length_nil, qAf] at hl ⊢); omega)); intro v9 w9 hb9 hm9; refine hK _ _ ?_; have q9 := q8.trans hm9; have H9 := hm9.blk H8 (by decide) (by simp); have c9_0 := H9.cell 0 rfl; have c9_1 := H9.cell 1 rfl; have c9_2 := H9.cell 2 rfl; have c9_3 := H9.cell 3 rfl; have c9_4 := H9.cell 4 rfl; have c9_5 := H9.cell 5 rfl)
  | (refine qAc rfl fun K hK => ?_; (with_reducible refine qBe B (.tmp 32) (.tmp 33) 128 ?_ underlying128 qDa _ _ (32 : UInt8) 32 ?_ ?_ ?_ hb9 (q9.le (Gd.le hg)) ?_ ?_); (focus rfl); (focus rfl); (focus rfl); (focus rfl); (focus ((try simp only [length_append, length_cons, length_nil, qAf] at hl ⊢); omega)); intro v10 w10 hb10 hm10; refine hK _ _ ?_; have q10 := q9.trans hm10; have H10 := hm10.blk H9 (by decide) (by simp); have c10_0 := H10.cell 0 rfl; have c10_1 := H10.cell 1 rfl; have c10_2 := H10.cell 2 rfl; have c10_3 := H10.cell 3 rfl; have c10_4 := H10.cell 4 rfl; have c10_5 := H10.cell 5 rfl)
  | (refine qAc rfl fun K hK => ?_; (with_reducible refine qA9 B (.tmp 35) (.tmp 37) 128 9 ?_ underlying128 underlying9 qDa _ _ x.adr ?_ ?_ hb10 (q10.le (Gd.le hg)) ?_ ?_); (focus rfl); (focus rfl); (focus rfl); (focus ((try simp only [length_append, length_cons, length_nil, qAf] at hl ⊢); omega)); intro v11 w11 hb11 hm11; refine hK _ _ ?_; have q11 := q10.trans hm11; have H11 := hm11.blk H10 (by decide) (by simp); have c11_0 := H11.cell 0 rfl; have c11_1 := H11.cell 1 rfl; have c11_2 := H11.cell 2 rfl; have c11_3 := H11.cell 3 rfl; have c11_4 := H11.cell 4 rfl; have c11_5 := H11.cell 5 rfl))
 go_ret
 exact ⟨v11, rfl, by simpa only [append_assoc, cons_append, nil_append] using hb11, q11⟩
set_option maxRecDepth 100000 in
theorem into_tim (B : Nat) (a b : Int) (v : Value) (l : List UInt8) (w : World) (hb : Buf w B v l) (hg : Gd B w) (h1 : qAg .u64 a) (h2 : qAg .u64 b) (hl : l.length + ((decDigits (Int.toNat a)) ++ (32 :: (decDigits (Int.toNat b)))).length + 64 <= 140737488355328) :
 Calls prog 96 #[.agg #[.int .u64 a, .int .u64 b], v] w (qBh B w l ((decDigits (Int.toNat a)) ++ (32 :: (decDigits (Int.toNat b))))) := by
 obtain ⟨g, hgg⟩ : ∃ g, g = w.heap.size := ⟨_, rfl⟩
 obtain ⟨w0, hw0⟩ : ∃ w0, w0 = w.alloc (.cells #[.int .u64 a, .int .u64 b] 174) := ⟨_, rfl⟩
 have q0 : Mk B none w w0 := by rw [hw0]; exact (Mk.refl _ _ _).alloc hg.1 _
 have H0 : Blk w0 g [.int .u64 a, .int .u64 b] 174 := by rw [hw0, hgg]; exact Blk.made w _ 174
 have hb0 : Buf w0 B v l := by rw [hw0]; exact hb.alloc _
 have c0_0 := H0.cell 0 rfl
 have c0_1 := H0.cell 1 rfl
 go_enter func96, ntmps96
 go_upto_region 1 with fail
 rw [<- hw0, <- hgg]
 clear hw0 hgg
 go_wp2_with (first
  | (go_at_call 127; (with_reducible refine (qFd B a _ _ _ hb0 (hg.on q0) h1 ?_).mono ?_); (focus ((try simp only [length_append, length_cons, length_nil, qAf] at hl ⊢); omega)); rintro e w1 ⟨v1, rfl, hb1, hm1⟩; have q1 := q0.trans hm1; have H1 := hm1.blk H0 (by decide) (by simp); have c1_0 := H1.cell 0 rfl; have c1_1 := H1.cell 1 rfl)
  | (refine qAc rfl fun K hK => ?_; (with_reducible refine qBe B (.tmp 8) (.tmp 9) 128 ?_ underlying128 qDa _ _ (32 : UInt8) 32 ?_ ?_ ?_ hb1 (q1.le (Gd.le hg)) ?_ ?_); (focus rfl); (focus rfl); (focus rfl); (focus rfl); (focus ((try simp only [length_append, length_cons, length_nil, qAf] at hl ⊢); omega)); intro v2 w2 hb2 hm2; refine hK _ _ ?_; have q2 := q1.trans hm2; have H2 := hm2.blk H1 (by decide) (by simp); have c2_0 := H2.cell 0 rfl; have c2_1 := H2.cell 1 rfl)
  | (go_at_call 127; (with_reducible refine (qFd B b _ _ _ hb2 (hg.on q2) h2 ?_).mono ?_); (focus ((try simp only [length_append, length_cons, length_nil, qAf] at hl ⊢); omega)); rintro e w3 ⟨v3, rfl, hb3, hm3⟩; have q3 := q2.trans hm3; have H3 := hm3.blk H2 (by decide) (by simp); have c3_0 := H3.cell 0 rfl; have c3_1 := H3.cell 1 rfl))
 go_ret
 exact ⟨v3, rfl, by simpa only [append_assoc, cons_append, nil_append] using hb3, q3⟩
set_option maxRecDepth 100000 in
theorem qM6 (B : Nat) (a b : Int) (v : Value) (l : List UInt8) (w : World) (hb : Buf w B v l) (hg : Gd B w) (h1 : qAg .u64 a) (h2 : qAg .i64 b) (hl : l.length + ((decDigits (Int.toNat a)) ++ (32 :: (itoa b))).length + 64 <= 140737488355328) :
 Calls prog 98 #[.agg #[.int .u64 a, .int .i64 b], v] w (qBh B w l ((decDigits (Int.toNat a)) ++ (32 :: (itoa b)))) := by
 obtain ⟨g, hgg⟩ : ∃ g, g = w.heap.size := ⟨_, rfl⟩
 obtain ⟨w0, hw0⟩ : ∃ w0, w0 = w.alloc (.cells #[.int .u64 a, .int .i64 b] 181) := ⟨_, rfl⟩
 have q0 : Mk B none w w0 := by rw [hw0]; exact (Mk.refl _ _ _).alloc hg.1 _
 have H0 : Blk w0 g [.int .u64 a, .int .i64 b] 181 := by rw [hw0, hgg]; exact Blk.made w _ 181
 have hb0 : Buf w0 B v l := by rw [hw0]; exact hb.alloc _
 have c0_0 := H0.cell 0 rfl
 have c0_1 := H0.cell 1 rfl
 go_enter func98, ntmps98
 go_upto_region 1 with fail
 rw [<- hw0, <- hgg]
 clear hw0 hgg
 go_wp2_with (first
  | (go_at_call 127; (with_reducible refine (qFd B a _ _ _ hb0 (hg.on q0) h1 ?_).mono ?_); (focus ((try simp only [length_append, length_cons, length_nil, qAf] at hl ⊢); omega)); rintro e w1 ⟨v1, rfl, hb1, hm1⟩; have q1 := q0.trans hm1; have H1 := hm1.blk H0 (by decide) (by simp); have c1_0 := H1.cell 0 rfl; have c1_1 := H1.cell 1 rfl)
  | (refine qAc rfl fun K hK => ?_; (with_reducible refine qBe B (.tmp 9) (.tmp 10) 128 ?_ underlying128 qDa _ _ (32 : UInt8) 32 ?_ ?_ ?_ hb1 (q1.le (Gd.le hg)) ?_ ?_); (focus rfl); (focus rfl); (focus rfl); (focus rfl); (focus ((try simp only [length_append, length_cons, length_nil, qAf] at hl ⊢); omega)); intro v2 w2 hb2 hm2; refine hK _ _ ?_; have q2 := q1.trans hm2; have H2 := hm2.blk H1 (by decide) (by simp); have c2_0 := H2.cell 0 rfl; have c2_1 := H2.cell 1 rfl)
  | (go_at_call 126; (with_reducible refine (qDw B b _ _ _ hb2 (hg.on q2) h2 ?_).mono ?_); (focus ((try simp only [length_append, length_cons, length_nil, qAf] at hl ⊢); omega)); rintro e w3 ⟨v3, rfl, hb3, hm3⟩; have q3 := q2.trans hm3; have H3 := hm3.blk H2 (by decide) (by simp); have c3_0 := H3.cell 0 rfl; have c3_1 := H3.cell 1 rfl))
 go_ret
 exact ⟨v3, rfl, by simpa only [append_assoc, cons_append, nil_append] using hb3, q3⟩
set_option maxRecDepth 100000 in
theorem qLg (B : Nat) (ty : ByteArray) (n : Int) (v : Value) (l : List UInt8) (w : World) (hb : Buf w B v l) (hg : Gd B w) (h1 : qAg .u64 n) (hl : l.length + ([88, 45] ++ (bs ty ++ (58 :: (decDigits (Int.toNat n))))).length + 64 <= 140737488355328) :
 Calls prog 95 #[.agg #[.bool true, .string ty, .int .u64 n], v] w (qBh B w l ([88, 45] ++ (bs ty ++ (58 :: (decDigits (Int.toNat n)))))) := by
 obtain ⟨g, hgg⟩ : ∃ g, g = w.heap.size := ⟨_, rfl⟩
 obtain ⟨w0, hw0⟩ : ∃ w0, w0 = w.alloc (.cells #[.bool true, .string ty, .int .u64 n] 198) := ⟨_, rfl⟩
 have q0 : Mk B none w w0 := by rw [hw0]; exact (Mk.refl _ _ _).alloc hg.1 _
 have H0 : Blk w0 g [.bool true, .string ty, .int .u64 n] 198 := by rw [hw0, hgg]; exact Blk.made w _ 198
 have hb0 : Buf w0 B v l := by rw [hw0]; exact hb.alloc _
 have c0_0 := H0.cell 0 rfl
 have c0_1 := H0.cell 1 rfl
 have c0_2 := H0.cell 2 rfl
 go_enter func95, ntmps95
 go_upto_region 1 with fail
 rw [<- hw0, <- hgg]
 clear hw0 hgg
 go_wp2_with (first
  | (refine qAc rfl fun K hK => ?_; (with_reducible refine qA9 B (.tmp 7) (.const (.string ⟨#[88, 45]⟩)) 128 9 ?_ underlying128 underlying9 qDa _ _ ⟨#[88, 45]⟩ ?_ ?_ hb0 (q0.le (Gd.le hg)) ?_ ?_); (focus rfl); (focus rfl); (focus rfl); (focus show l.length + 2 <= 140737488355328; omega); intro v1 w1 hb1 hm1; replace hb1 : Buf w1 B v1 (l ++ [88, 45]) := hb1; refine hK _ _ ?_; have q1 := q0.trans hm1; have H1 := hm1.blk H0 (by decide) (by simp); have c1_0 := H1.cell 0 rfl; have c1_1 := H1.cell 1 rfl; have c1_2 := H1.cell 2 rfl)
  | (refine qAc rfl fun K hK => ?_; (with_reducible refine qA9 B (.tmp 9) (.tmp 11) 128 9 ?_ underlying128 underlying9 qDa _ _ ty ?_ ?_ hb1 (q1.le (Gd.le hg)) ?_ ?_); (focus rfl); (focus rfl); (focus rfl); (focus ((try simp only [length_append, length_cons, length_nil, qAf] at hl ⊢); omega)); intro v2 w2 hb2 hm2; refine hK _ _ ?_; have q2 := q1.trans hm2; have H2 := hm2.blk H1 (by decide) (by simp); have c2_0 := H2.cell 0 rfl; have c2_1 := H2.cell 1 rfl; have c2_2 := H2.cell 2 rfl)
  | (refine qAc rfl fun K hK => ?_; (with_reducible refine qBe B (.tmp 12) (.tmp 13) 128 ?_ underlying128 qDa _ _ (58 : UInt8) 58 ?_ ?_ ?_ hb2 (q2.le (Gd.le hg)) ?_ ?_); (focus rfl); (focus rfl); (focus rfl); (focus rfl); (focus ((try simp only [length_append, length_cons, length_nil, qAf] at hl ⊢); omega)); intro v3 w3 hb3 hm3; refine hK _ _ ?_; have q3 := q2.trans hm3; have H3 := hm3.blk H2 (by decide) (by simp); have c3_0 := H3.cell 0 rfl; have c3_1 := H3.cell 1 rfl; have c3_2 := H3.cell 2 rfl)
  | (go_at_call 127; (with_reducible refine (qFd B n _ _ _ hb3 (hg.on q3) h1 ?_).mono ?_); (focus ((try simp only [length_append, length_cons, length_nil, qAf] at hl ⊢); omega)); rintro e w4 ⟨v4, rfl, hb4, hm4⟩; have q4 := q3.trans hm4; have H4 := hm4.blk H3 (by decide) (by simp); have c4_0 := H4.cell 0 rfl; have c4_1 := H4.cell 1 rfl; have c4_2 := H4.cell 2 rfl))
 go_ret
 exact ⟨v4, rfl, by simpa only [append_assoc, cons_append, nil_append] using hb4, q4⟩
set_option maxRecDepth 100000 in
theorem qJ6 (B : Nat) (ty : ByteArray) (n : Int) (v : Value) (l : List UInt8) (w : World) (hb : Buf w B v l) (hg : Gd B w) (h1 : qAg .u64 n) (hl : l.length + (bs ty ++ (58 :: (decDigits (Int.toNat n)))).length + 64 <= 140737488355328) :
 Calls prog 95 #[.agg #[.bool false, .string ty, .int .u64 n], v] w (qBh B w l (bs ty ++ (58 :: (decDigits (Int.toNat n))))) := by
 obtain ⟨g, hgg⟩ : ∃ g, g = w.heap.size := ⟨_, rfl⟩
 obtain ⟨w0, hw0⟩ : ∃ w0, w0 = w.alloc (.cells #[.bool false, .string ty, .int .u64 n] 198) := ⟨_, rfl⟩
 have q0 : Mk B none w w0 := by rw [hw0]; exact (Mk.refl _ _ _).alloc hg.1 _
 have H0 : Blk w0 g [.bool false, .string ty, .int .u64 n] 198 := by rw [hw0, hgg]; exact Blk.made w _ 198
 have hb0 : Buf w0 B v l := by rw [hw0]; exact hb.alloc _
 have c0_0 := H0.cell 0 rfl
 have c0_1 := H0.cell 1 rfl
 have c0_2 := H0.cell 2 rfl
 go_enter func95, ntmps95
 go_upto_region 1 with fail
 rw [<- hw0, <- hgg]
 clear hw0 hgg
 go_wp2_with (first
  | (refine qAc rfl fun K hK => ?_; (with_reducible refine qA9 B (.tmp 9) (.tmp 11) 128 9 ?_ underlying128 underlying9 qDa _ _ ty ?_ ?_ hb0 (q0.le (Gd.le hg)) ?_ ?_); (focus rfl); (focus rfl); (focus rfl); (focus ((try simp only [length_append, length_cons, length_nil, qAf] at hl ⊢); omega)); intro v1 w1 hb1 hm1; refine hK _ _ ?_; have q1 := q0.trans hm1; have H1 := hm1.blk H0 (by decide) (by simp); have c1_0 := H1.cell 0 rfl; have c1_1 := H1.cell 1 rfl; have c1_2 := H1.cell 2 rfl)
  | (refine qAc rfl fun K hK => ?_; (with_reducible refine qBe B (.tmp 12) (.tmp 13) 128 ?_ underlying128 qDa _ _ (58 : UInt8) 58 ?_ ?_ ?_ hb1 (q1.le (Gd.le hg)) ?_ ?_); (focus rfl); (focus rfl); (focus rfl); (focus rfl); (focus ((try simp only [length_append, length_cons, length_nil, qAf] at hl ⊢); omega)); intro v2 w2 hb2 hm2; refine hK _ _ ?_; have q2 := q1.trans hm2; have H2 := hm2.blk H1 (by decide) (by simp); have c2_0 := H2.cell 0 rfl; have c2_1 := H2.cell 1 rfl; have c2_2 := H2.cell 2 rfl)
  | (go_at_call 127; (with_reducible refine (qFd B n _ _ _ hb2 (hg.on q2) h1 ?_).mono ?_); (focus ((try simp only [length_append, length_cons, length_nil, qAf] at hl ⊢); omega)); rintro e w3 ⟨v3, rfl, hb3, hm3⟩; have q3 := q2.trans hm3; have H3 := hm3.blk H2 (by decide) (by simp); have c3_0 := H3.cell 0 rfl; have c3_1 := H3.cell 1 rfl; have c3_2 := H3.cell 2 rfl))
 go_ret
 exact ⟨v3, rfl, by simpa only [append_assoc, cons_append, nil_append] using hb3, q3⟩
theorem qQ6 (B : Nat) (x : Bwd) (v : Value) (l : List UInt8) (w : World) (hb : Buf w B v l) (hg : Gd B w) (h1 : qAg .u64 x.n) (hl : l.length + (qF8 x).length + 64 <= 140737488355328) :
 Calls prog 95 #[.agg #[.bool x.x, .string x.ty, .int .u64 x.n], v] w (qBh B w l (qF8 x)) := by
 obtain ⟨b, ty, n⟩ := x
 unfold qF8 at hl ⊢
 cases b
 · exact qJ6 B ty n v l w hb hg h1 (by simpa using hl)
 exact qLg B ty n v l w hb hg h1 (by simpa using hl)
theorem qEf {n : Int} (h : 0 <= n) (hw : qAg .i64 n) : (itoa n) = (decDigits (Int.toNat (n % 18446744073709551616))) := by
 have e2 : (IntKind.max .i64 : Int) = 9223372036854775807 := by decide
 have h2 := hw.2
 rw [e2] at h2
 unfold itoa
 rw [if_neg (by omega), Int.emod_eq_of_lt h (by omega)]
theorem qG5 {w : World} {n : Int} {b : Nat} (h : tyI.At w [n] b 0) : w.cell? ⟨b, 0, none⟩ = some (.int .i64 n) /\ qAg .i64 n := by
 obtain ⟨cs, ⟨rfl, hn⟩, hc⟩ := h 0 n rfl
 exact ⟨hc 0 _ rfl, hn⟩
theorem qEg {w : World} {s : ByteArray} {b : Nat} (h : qAd.At w [s] b 0) : w.cell? ⟨b, 0, none⟩ = some (.string s) /\ qAb s := by
 obtain ⟨cs, ⟨rfl, hn⟩, hc⟩ := h 0 s rfl
 exact ⟨hc 0 _ rfl, hn⟩
set_option maxRecDepth 100000 in
theorem into_adr (B : Nat) (x : Adr) (b : Nat) (wd w : World) (v : Value) (l : List UInt8) (hA : qHq.At wd [x] b 0) (hd : Nw wd w) (hB : wd.heap.size <= B) (hb0 : Buf w B v l) (hg : Gd B w) (hz : ∀ n ∈ x.ttl ++ x.rng, 0 <= n) (hl : l.length + (bs x.addr ++ qAx (x.ttl ++ x.rng)).length + 64 <= 140737488355328) :
 Calls prog 128 #[.pointer (some ⟨b, 0, none⟩), v] w (qBh B w l (bs x.addr ++ qAx (x.ttl ++ x.rng))) := by
 obtain ⟨cs, ⟨p1, p2, rfl, _, h1, h2⟩, hc⟩ := hA 0 x rfl
 have c0 : wd.cell? ⟨b, 0, none⟩ = some (.string x.addr) := hc 0 _ rfl
 have c1 : wd.cell? ⟨b, 1, none⟩ = some p1 := hc 1 _ rfl
 have c2 : wd.cell? ⟨b, 2, none⟩ = some p2 := hc 2 _ rfl
 have q0 := Mk.refl B none w
 have c0_0 := hd.cell c0
 have c1_0 := hd.cell c1
 have c2_0 := hd.cell c2
 clear hc hA
 rcases h1 with ⟨e1, rfl⟩ | ⟨t1, b1, e1, rfl, h1⟩
 · rcases h2 with ⟨e2, rfl⟩ | ⟨t2, b2, e2, rfl, h2⟩
   · have ht : bs x.addr ++ qAx (x.ttl ++ x.rng) = bs x.addr := by simp [qAx, e1, e2]
     rw [ht] at hl ⊢
     clear hz ht
     go_enter func128, ntmps128
     go_wp2_with (first
      | (refine qAc rfl fun K hK => ?_; (with_reducible refine qA9 B (.tmp 5) (.tmp 9) 128 9 ?_ underlying128 underlying9 qDa _ _ x.addr ?_ ?_ hb0 (q0.le (Gd.le hg)) ?_ ?_); (focus rfl); (focus rfl); (focus rfl); (focus ((try simp only [length_append, length_cons, length_nil, qAf] at hl ⊢); omega)); intro v1 w1 hb1 hm1; refine hK _ _ ?_; have q1 := q0.trans hm1; have n1 := q1.nw hd hB; have c0_1 := n1.cell c0; have c1_1 := n1.cell c1; have c2_1 := n1.cell c2))
     go_ret
     exact ⟨v1, rfl, by simpa only [append_assoc, cons_append, nil_append] using hb1, q1⟩
   obtain ⟨d2, f2⟩ := qG5 h2
   have d2_0 := hd.cell d2
   have g2 : (itoa t2) = (decDigits (Int.toNat (t2 % 18446744073709551616))) := qEf (hz t2 (by simp [e2])) f2
   have ht : bs x.addr ++ qAx (x.ttl ++ x.rng) = bs x.addr ++ (47 :: (decDigits (Int.toNat (t2 % 18446744073709551616)))) := by simp [qAx, e1, e2]
   rw [ht] at hl ⊢
   rw [<- g2] at hl ⊢
   clear hz ht
   go_enter func128, ntmps128
   go_wp2_with (first
    | (refine qAc rfl fun K hK => ?_; (with_reducible refine qA9 B (.tmp 5) (.tmp 9) 128 9 ?_ underlying128 underlying9 qDa _ _ x.addr ?_ ?_ hb0 (q0.le (Gd.le hg)) ?_ ?_); (focus rfl); (focus rfl); (focus rfl); (focus ((try simp only [length_append, length_cons, length_nil, qAf] at hl ⊢); omega)); intro v1 w1 hb1 hm1; refine hK _ _ ?_; have q1 := q0.trans hm1; have n1 := q1.nw hd hB; have c0_1 := n1.cell c0; have c1_1 := n1.cell c1; have c2_1 := n1.cell c2; have d2_1 := n1.cell d2)
    | (refine qAc rfl fun K hK => ?_; (with_reducible refine qBe B (.tmp 32) (.tmp 33) 128 ?_ underlying128 qDa _ _ (47 : UInt8) 47 ?_ ?_ ?_ hb1 (q1.le (Gd.le hg)) ?_ ?_); (focus rfl); (focus rfl); (focus rfl); (focus rfl); (focus ((try simp only [length_append, length_cons, length_nil, qAf] at hl ⊢); omega)); intro v2 w2 hb2 hm2; refine hK _ _ ?_; have q2 := q1.trans hm2; have n2 := q2.nw hd hB; have c0_2 := n2.cell c0; have c1_2 := n2.cell c1; have c2_2 := n2.cell c2; have d2_2 := n2.cell d2)
    | (go_at_call 126; (with_reducible refine (qDw B t2 _ _ _ hb2 (hg.on q2) f2 ?_).mono ?_); (focus ((try simp only [length_append, length_cons, length_nil, qAf] at hl ⊢); omega)); rintro e w3 ⟨v3, rfl, hb3, hm3⟩; have q3 := q2.trans hm3; have n3 := q3.nw hd hB; have c0_3 := n3.cell c0; have c1_3 := n3.cell c1; have c2_3 := n3.cell c2; have d2_3 := n3.cell d2))
   go_ret
   exact ⟨v3, rfl, by simpa only [append_assoc, cons_append, nil_append] using hb3, q3⟩
 obtain ⟨d1, f1⟩ := qG5 h1
 have d1_0 := hd.cell d1
 rcases h2 with ⟨e2, rfl⟩ | ⟨t2, b2, e2, rfl, h2⟩
 · have g1 : (itoa t1) = (decDigits (Int.toNat (t1 % 18446744073709551616))) := qEf (hz t1 (by simp [e1])) f1
   have ht : bs x.addr ++ qAx (x.ttl ++ x.rng) = bs x.addr ++ (47 :: (decDigits (Int.toNat (t1 % 18446744073709551616)))) := by simp [qAx, e1, e2]
   rw [ht] at hl ⊢
   rw [<- g1] at hl ⊢
   clear hz ht
   go_enter func128, ntmps128
   go_wp2_with (first
    | (refine qAc rfl fun K hK => ?_; (with_reducible refine qA9 B (.tmp 5) (.tmp 9) 128 9 ?_ underlying128 underlying9 qDa _ _ x.addr ?_ ?_ hb0 (q0.le (Gd.le hg)) ?_ ?_); (focus rfl); (focus rfl); (focus rfl); (focus ((try simp only [length_append, length_cons, length_nil, qAf] at hl ⊢); omega)); intro v1 w1 hb1 hm1; refine hK _ _ ?_; have q1 := q0.trans hm1; have n1 := q1.nw hd hB; have c0_1 := n1.cell c0; have c1_1 := n1.cell c1; have c2_1 := n1.cell c2; have d1_1 := n1.cell d1)
    | (refine qAc rfl fun K hK => ?_; (with_reducible refine qBe B (.tmp 16) (.tmp 17) 128 ?_ underlying128 qDa _ _ (47 : UInt8) 47 ?_ ?_ ?_ hb1 (q1.le (Gd.le hg)) ?_ ?_); (focus rfl); (focus rfl); (focus rfl); (focus rfl); (focus ((try simp only [length_append, length_cons, length_nil, qAf] at hl ⊢); omega)); intro v2 w2 hb2 hm2; refine hK _ _ ?_; have q2 := q1.trans hm2; have n2 := q2.nw hd hB; have c0_2 := n2.cell c0; have c1_2 := n2.cell c1; have c2_2 := n2.cell c2; have d1_2 := n2.cell d1)
    | (go_at_call 126; (with_reducible refine (qDw B t1 _ _ _ hb2 (hg.on q2) f1 ?_).mono ?_); (focus ((try simp only [length_append, length_cons, length_nil, qAf] at hl ⊢); omega)); rintro e w3 ⟨v3, rfl, hb3, hm3⟩; have q3 := q2.trans hm3; have n3 := q3.nw hd hB; have c0_3 := n3.cell c0; have c1_3 := n3.cell c1; have c2_3 := n3.cell c2; have d1_3 := n3.cell d1))
   go_ret
   exact ⟨v3, rfl, by simpa only [append_assoc, cons_append, nil_append] using hb3, q3⟩
 obtain ⟨d2, f2⟩ := qG5 h2
 have d2_0 := hd.cell d2
 have g1 : (itoa t1) = (decDigits (Int.toNat (t1 % 18446744073709551616))) := qEf (hz t1 (by simp [e1])) f1
 have g2 : (itoa t2) = (decDigits (Int.toNat (t2 % 18446744073709551616))) := qEf (hz t2 (by simp [e2])) f2
 have ht : bs x.addr ++ qAx (x.ttl ++ x.rng) = bs x.addr ++ (47 :: (decDigits (Int.toNat (t1 % 18446744073709551616)))) ++ (47 :: (decDigits (Int.toNat (t2 % 18446744073709551616)))) := by simp [qAx, e1, e2]
 rw [ht] at hl ⊢
 rw [<- g1, <- g2] at hl ⊢
 clear hz ht
 go_enter func128, ntmps128
 go_wp2_with (first
  | (refine qAc rfl fun K hK => ?_; (with_reducible refine qA9 B (.tmp 5) (.tmp 9) 128 9 ?_ underlying128 underlying9 qDa _ _ x.addr ?_ ?_ hb0 (q0.le (Gd.le hg)) ?_ ?_); (focus rfl); (focus rfl); (focus rfl); (focus ((try simp only [length_append, length_cons, length_nil, qAf] at hl ⊢); omega)); intro v1 w1 hb1 hm1; refine hK _ _ ?_; have q1 := q0.trans hm1; have n1 := q1.nw hd hB; have c0_1 := n1.cell c0; have c1_1 := n1.cell c1; have c2_1 := n1.cell c2; have d1_1 := n1.cell d1; have d2_1 := n1.cell d2)
  | (refine qAc rfl fun K hK => ?_; (with_reducible refine qBe B (.tmp 16) (.tmp 17) 128 ?_ underlying128 qDa _ _ (47 : UInt8) 47 ?_ ?_ ?_ hb1 (q1.le (Gd.le hg)) ?_ ?_); (focus rfl); (focus rfl); (focus rfl); (focus rfl); (focus ((try simp only [length_append, length_cons, length_nil, qAf] at hl ⊢); omega)); intro v2 w2 hb2 hm2; refine hK _ _ ?_; have q2 := q1.trans hm2; have n2 := q2.nw hd hB; have c0_2 := n2.cell c0; have c1_2 := n2.cell c1; have c2_2 := n2.cell c2; have d1_2 := n2.cell d1; have d2_2 := n2.cell d2)
  | (go_at_call 126; (with_reducible refine (qDw B t1 _ _ _ hb2 (hg.on q2) f1 ?_).mono ?_); (focus ((try simp only [length_append, length_cons, length_nil, qAf] at hl ⊢); omega)); rintro e w3 ⟨v3, rfl, hb3, hm3⟩; have q3 := q2.trans hm3; have n3 := q3.nw hd hB; have c0_3 := n3.cell c0; have c1_3 := n3.cell c1; have c2_3 := n3.cell c2; have d1_3 := n3.cell d1; have d2_3 := n3.cell d2)
  | (refine qAc rfl fun K hK => ?_; (with_reducible refine qBe B (.tmp 32) (.tmp 33) 128 ?_ underlying128 qDa _ _ (47 : UInt8) 47 ?_ ?_ ?_ hb3 (q3.le (Gd.le hg)) ?_ ?_); (focus rfl); (focus rfl); (focus rfl); (focus rfl); (focus ((try simp only [length_append, length_cons, length_nil, qAf] at hl ⊢); omega)); intro v4 w4 hb4 hm4; refine hK _ _ ?_; have q4 := q3.trans hm4; have n4 := q4.nw hd hB; have c0_4 := n4.cell c0; have c1_4 := n4.cell c1; have c2_4 := n4.cell c2; have d1_4 := n4.cell d1; have d2_4 := n4.cell d2)
  | (go_at_call 126; (with_reducible refine (qDw B t2 _ _ _ hb4 (hg.on q4) f2 ?_).mono ?_); (focus ((try simp only [length_append, length_cons, length_nil, qAf] at hl ⊢); omega)); rintro e w5 ⟨v5, rfl, hb5, hm5⟩; have q5 := q4.trans hm5; have n5 := q5.nw hd hB; have c0_5 := n5.cell c0; have c1_5 := n5.cell c1; have c2_5 := n5.cell c2; have d1_5 := n5.cell d1; have d2_5 := n5.cell d2))
 go_ret
 exact ⟨v5, rfl, by simpa only [append_assoc, cons_append, nil_append] using hb5, q5⟩
set_option maxRecDepth 100000 in
theorem qM7 (B : Nat) (x : Con) (p1 : Value) (wd w : World) (v : Value) (l : List UInt8) (h1 : qHq.Pt wd x.adrs p1) (hd : Nw wd w) (hB : wd.heap.size <= B) (hb : Buf w B v l) (hg : Gd B w) (hz : ∀ a ∈ x.adrs, ∀ n ∈ a.ttl ++ a.rng, 0 <= n) (hl : l.length + (qD7 x).length + 64 <= 140737488355328) :
 Calls prog 94 #[.agg #[.string x.net, .string x.addr, p1], v] w (qBh B w l (qD7 x)) := by
 rcases h1 with ⟨e1, rfl⟩ | ⟨y, b1, e1, rfl, h1⟩
 · have ht : qD7 x = bs x.net ++ (32 :: bs x.addr) := by simp [qD7, qKa, e1]
   rw [ht] at hl ⊢
   clear ht hz
   obtain ⟨g, hgg⟩ : ∃ g, g = w.heap.size := ⟨_, rfl⟩
   obtain ⟨w0, hw0⟩ : ∃ w0, w0 = w.alloc (.cells #[.string x.net, .string x.addr, .pointer none] 215) := ⟨_, rfl⟩
   have q0 : Mk B none w w0 := by rw [hw0]; exact (Mk.refl _ _ _).alloc hg.1 _
   have H0 : Blk w0 g [.string x.net, .string x.addr, .pointer none] 215 := by rw [hw0, hgg]; exact Blk.made w _ 215
   have hb0 : Buf w0 B v l := by rw [hw0]; exact hb.alloc _
   have c0_0 := H0.cell 0 rfl
   have c0_1 := H0.cell 1 rfl
   have c0_2 := H0.cell 2 rfl
   go_enter func94, ntmps94
   go_upto_region 1 with fail
   rw [<- hw0, <- hgg]
   clear hw0 hgg
   go_wp2_with (first
   | (refine qAc rfl fun K hK => ?_; (with_reducible refine qA9 B (.tmp 5) (.tmp 7) 128 9 ?_ underlying128 underlying9 qDa _ _ x.net ?_ ?_ hb0 (q0.le (Gd.le hg)) ?_ ?_); (focus rfl); (focus rfl); (focus rfl); (focus ((try simp only [length_append, length_cons, length_nil, qAf] at hl ⊢); omega)); intro v1 w1 hb1 hm1; refine hK _ _ ?_; have q1 := q0.trans hm1; have H1 := hm1.blk H0 (by decide) (by simp); have c1_0 := H1.cell 0 rfl; have c1_1 := H1.cell 1 rfl; have c1_2 := H1.cell 2 rfl)
   | (refine qAc rfl fun K hK => ?_; (with_reducible refine qBe B (.tmp 8) (.tmp 9) 128 ?_ underlying128 qDa _ _ (32 : UInt8) 32 ?_ ?_ ?_ hb1 (q1.le (Gd.le hg)) ?_ ?_); (focus rfl); (focus rfl); (focus rfl); (focus rfl); (focus ((try simp only [length_append, length_cons, length_nil, qAf] at hl ⊢); omega)); intro v2 w2 hb2 hm2; refine hK _ _ ?_; have q2 := q1.trans hm2; have H2 := hm2.blk H1 (by decide) (by simp); have c2_0 := H2.cell 0 rfl; have c2_1 := H2.cell 1 rfl; have c2_2 := H2.cell 2 rfl)
   | (refine qAc rfl fun K hK => ?_; (with_reducible refine qA9 B (.tmp 11) (.tmp 13) 128 9 ?_ underlying128 underlying9 qDa _ _ x.addr ?_ ?_ hb2 (q2.le (Gd.le hg)) ?_ ?_); (focus rfl); (focus rfl); (focus rfl); (focus ((try simp only [length_append, length_cons, length_nil, qAf] at hl ⊢); omega)); intro v3 w3 hb3 hm3; refine hK _ _ ?_; have q3 := q2.trans hm3; have H3 := hm3.blk H2 (by decide) (by simp); have c3_0 := H3.cell 0 rfl; have c3_1 := H3.cell 1 rfl; have c3_2 := H3.cell 2 rfl))
   go_ret
   exact ⟨v3, rfl, by simpa only [append_assoc, cons_append, nil_append] using hb3, q3⟩
 have hzy := hz y (by rw [e1]; exact List.mem_cons_self)
 have ht : qD7 x = bs x.net ++ (32 :: (bs x.addr ++ (32 :: (bs y.addr ++ qAx (y.ttl ++ y.rng))))) := by simp [qD7, qKa, e1]
 rw [ht] at hl ⊢
 clear ht hz
 obtain ⟨g, hgg⟩ : ∃ g, g = w.heap.size := ⟨_, rfl⟩
 obtain ⟨w0, hw0⟩ : ∃ w0, w0 = w.alloc (.cells #[.string x.net, .string x.addr, .pointer (some ⟨b1, 0, none⟩)] 215) := ⟨_, rfl⟩
 have q0 : Mk B none w w0 := by rw [hw0]; exact (Mk.refl _ _ _).alloc hg.1 _
 have H0 : Blk w0 g [.string x.net, .string x.addr, .pointer (some ⟨b1, 0, none⟩)] 215 := by rw [hw0, hgg]; exact Blk.made w _ 215
 have hb0 : Buf w0 B v l := by rw [hw0]; exact hb.alloc _
 have c0_0 := H0.cell 0 rfl
 have c0_1 := H0.cell 1 rfl
 have c0_2 := H0.cell 2 rfl
 go_enter func94, ntmps94
 go_upto_region 1 with fail
 rw [<- hw0, <- hgg]
 clear hw0 hgg
 go_wp2_with (first
 | (refine qAc rfl fun K hK => ?_; (with_reducible refine qA9 B (.tmp 5) (.tmp 7) 128 9 ?_ underlying128 underlying9 qDa _ _ x.net ?_ ?_ hb0 (q0.le (Gd.le hg)) ?_ ?_); (focus rfl); (focus rfl); (focus rfl); (focus ((try simp only [length_append, length_cons, length_nil, qAf] at hl ⊢); omega)); intro v1 w1 hb1 hm1; refine hK _ _ ?_; have q1 := q0.trans hm1; have H1 := hm1.blk H0 (by decide) (by simp); have c1_0 := H1.cell 0 rfl; have c1_1 := H1.cell 1 rfl; have c1_2 := H1.cell 2 rfl)
 | (refine qAc rfl fun K hK => ?_; (with_reducible refine qBe B (.tmp 8) (.tmp 9) 128 ?_ underlying128 qDa _ _ (32 : UInt8) 32 ?_ ?_ ?_ hb1 (q1.le (Gd.le hg)) ?_ ?_); (focus rfl); (focus rfl); (focus rfl); (focus rfl); (focus ((try simp only [length_append, length_cons, length_nil, qAf] at hl ⊢); omega)); intro v2 w2 hb2 hm2; refine hK _ _ ?_; have q2 := q1.trans hm2; have H2 := hm2.blk H1 (by decide) (by simp); have c2_0 := H2.cell 0 rfl; have c2_1 := H2.cell 1 rfl; have c2_2 := H2.cell 2 rfl)
 | (refine qAc rfl fun K hK => ?_; (with_reducible refine qA9 B (.tmp 11) (.tmp 13) 128 9 ?_ underlying128 underlying9 qDa _ _ x.addr ?_ ?_ hb2 (q2.le (Gd.le hg)) ?_ ?_); (focus rfl); (focus rfl); (focus rfl); (focus ((try simp only [length_append, length_cons, length_nil, qAf] at hl ⊢); omega)); intro v3 w3 hb3 hm3; refine hK _ _ ?_; have q3 := q2.trans hm3; have H3 := hm3.blk H2 (by decide) (by simp); have c3_0 := H3.cell 0 rfl; have c3_1 := H3.cell 1 rfl; have c3_2 := H3.cell 2 rfl)
 | (refine qAc rfl fun K hK => ?_; (with_reducible refine qBe B (.tmp 18) (.tmp 19) 128 ?_ underlying128 qDa _ _ (32 : UInt8) 32 ?_ ?_ ?_ hb3 (q3.le (Gd.le hg)) ?_ ?_); (focus rfl); (focus rfl); (focus rfl); (focus rfl); (focus ((try simp only [length_append, length_cons, length_nil, qAf] at hl ⊢); omega)); intro v4 w4 hb4 hm4; refine hK _ _ ?_; have q4 := q3.trans hm4; have H4 := hm4.blk H3 (by decide) (by simp); have c4_0 := H4.cell 0 rfl; have c4_1 := H4.cell 1 rfl; have c4_2 := H4.cell 2 rfl)
 | (go_at_call 128; (with_reducible refine (into_adr B y b1 wd _ _ _ h1 (q4.nw hd hB) hB hb4 (hg.on q4) hzy ?_).mono ?_); (focus ((try simp only [length_append, length_cons, length_nil, qAf] at hl ⊢); omega)); rintro e w5 ⟨v5, rfl, hb5, hm5⟩; have q5 := q4.trans hm5; have H5 := hm5.blk H4 (by decide) (by simp); have c5_0 := H5.cell 0 rfl; have c5_1 := H5.cell 1 rfl; have c5_2 := H5.cell 2 rfl))
 go_ret
 exact ⟨v5, rfl, by simpa only [append_assoc, cons_append, nil_append] using hb5, q5⟩
set_option maxRecDepth 100000 in
theorem qM8 (B : Nat) (x : Att) (w : World) (v : Value) (l : List UInt8) (hb : Buf w B v l) (hg : Gd B w) (hl : l.length + (qC1 x).length + 64 <= 140737488355328) :
 Calls prog 100 #[.agg #[.string x.key, .string x.val], v] w (qBh B w l (qC1 x)) := by
 by_cases hv : x.val.size = 0
 · have ht : qC1 x = bs x.key := by simp [qC1, hv]
   have hv2 : ¬ (0 : Int) < (x.val.size : Int) := by omega
   rw [ht] at hl ⊢
   clear ht hv
   obtain ⟨g, hgg⟩ : ∃ g, g = w.heap.size := ⟨_, rfl⟩
   obtain ⟨w0, hw0⟩ : ∃ w0, w0 = w.alloc (.cells #[.string x.key, .string x.val] 199) := ⟨_, rfl⟩
   have q0 : Mk B none w w0 := by rw [hw0]; exact (Mk.refl _ _ _).alloc hg.1 _
   have H0 : Blk w0 g [.string x.key, .string x.val] 199 := by rw [hw0, hgg]; exact Blk.made w _ 199
   have hb0 : Buf w0 B v l := by rw [hw0]; exact hb.alloc _
   have c0_0 := H0.cell 0 rfl
   have c0_1 := H0.cell 1 rfl
   go_enter func100, ntmps100
   go_upto_region 1 with fail
   rw [<- hw0, <- hgg]
   clear hw0 hgg
   go_wp2_with (first
   | (refine qAc rfl fun K hK => ?_; (with_reducible refine qA9 B (.tmp 5) (.tmp 7) 128 9 ?_ underlying128 underlying9 qDa _ _ x.key ?_ ?_ hb0 (q0.le (Gd.le hg)) ?_ ?_); (focus rfl); (focus rfl); (focus rfl); (focus ((try simp only [length_append, length_cons, length_nil, qAf] at hl ⊢); omega)); intro v1 w1 hb1 hm1; refine hK _ _ ?_; have q1 := q0.trans hm1; have H1 := hm1.blk H0 (by decide) (by simp); have c1_0 := H1.cell 0 rfl; have c1_1 := H1.cell 1 rfl))
   go_ret
   exact ⟨v1, rfl, hb1, q1⟩
 have ht : qC1 x = bs x.key ++ (58 :: bs x.val) := by simp [qC1, hv]
 have hv2 : (0 : Int) < (x.val.size : Int) := by omega
 rw [ht] at hl ⊢
 clear ht hv
 obtain ⟨g, hgg⟩ : ∃ g, g = w.heap.size := ⟨_, rfl⟩
 obtain ⟨w0, hw0⟩ : ∃ w0, w0 = w.alloc (.cells #[.string x.key, .string x.val] 199) := ⟨_, rfl⟩
 have q0 : Mk B none w w0 := by rw [hw0]; exact (Mk.refl _ _ _).alloc hg.1 _
 have H0 : Blk w0 g [.string x.key, .string x.val] 199 := by rw [hw0, hgg]; exact Blk.made w _ 199
 have hb0 : Buf w0 B v l := by rw [hw0]; exact hb.alloc _
 have c0_0 := H0.cell 0 rfl
 have c0_1 := H0.cell 1 rfl
 go_enter func100, ntmps100
 go_upto_region 1 with fail
 rw [<- hw0, <- hgg]
 clear hw0 hgg
 go_upto_region 3 with (first
 | (refine qAc rfl fun K hK => ?_; (with_reducible refine qA9 B (.tmp 5) (.tmp 7) 128 9 ?_ underlying128 underlying9 qDa _ _ x.key ?_ ?_ hb0 (q0.le (Gd.le hg)) ?_ ?_); (focus rfl); (focus rfl); (focus rfl); (focus ((try simp only [length_append, length_cons, length_nil, qAf] at hl ⊢); omega)); intro v1 w1 hb1 hm1; refine hK _ _ ?_; have q1 := q0.trans hm1; have H1 := hm1.blk H0 (by decide) (by simp); have c1_0 := H1.cell 0 rfl; have c1_1 := H1.cell 1 rfl))
 refine qAv 6 (fun w' => w'.cell? ⟨g, 1, none⟩ = some (.string x.val)) (by kernel_rfl) (H1.drew.cell 1 rfl) (fun hHeld => ?_)
 (refine' qGf (i := 0) (oi := ?oia0) (v := ?va0) ?hia0 (by kernel_rfl) (by kernel_rfl) (by kernel_rfl) (by kernel_rfl) ?hQa0 (Or.inl ⟨?hwa0, ?hya0⟩) (by assumption) ?resta0; (case hia0 => ((simp only [List.getElem?_toArray, List.getElem?_cons_succ, List.getElem?_cons_zero]); (first | done | rfl))); (case hQa0 => exact fun _ _ _ h => h); (case hwa0 => rfl); (case hya0 => (intro w hSw; (try dsimp only at hSw); go_simp; (first | done | (with_reducible rfl)))); (try simp only [sP]))
 (refine' qGf (i := 3) (oi := ?oia3) (v := ?va3) ?hia3 (by kernel_rfl) (by kernel_rfl) (by kernel_rfl) (by kernel_rfl) ?hQa3 (Or.inl ⟨?hwa3, ?hya3⟩) (by assumption) ?resta3; (case hia3 => ((simp only [List.getElem?_toArray, List.getElem?_cons_succ, List.getElem?_cons_zero]); (first | done | rfl))); (case hQa3 => exact fun _ _ _ h => h); (case hwa3 => rfl); (case hya3 => (intro w hSw; (try dsimp only at hSw); go_simp; (first | done | (with_reducible rfl)))); (try simp only [sP]))
 (refine' qGf (i := 4) (oi := ?oia4) (v := ?va4) ?hia4 (by kernel_rfl) (by kernel_rfl) (by kernel_rfl) (by kernel_rfl) ?hQa4 (Or.inl ⟨?hwa4, ?hya4⟩) (by assumption) ?resta4; (case hia4 => ((simp only [List.getElem?_toArray, List.getElem?_cons_succ, List.getElem?_cons_zero]); (first | done | rfl))); (case hQa4 => exact fun _ _ _ h => h); (case hwa4 => rfl); (case hya4 => (intro w hSw; (try dsimp only at hSw); go_simp; (first | done | (with_reducible rfl)))); (try simp only [sP]))
 (refine' qFx (i := 1) (o := ?oa1) (by kernel_rfl) ?hoa1 (by decide) (fun K hK => ?_); (case hoa1 => ((simp only [List.getElem?_toArray, List.getElem?_cons_succ, List.getElem?_cons_zero]); (first | done | rfl))))
 go_simp
 refine hK.out _ _ ?_ (fun hHeld => ?_)
 · exact ((H1.alloc _).drew).cell 1 rfl
 clear hK K
 (try simp only [sP])
 (refine' qFx (i := 2) (o := ?oa2) (by kernel_rfl) ?hoa2 (by decide) (fun K hK => ?_); (case hoa2 => ((simp only [List.getElem?_toArray, List.getElem?_cons_succ, List.getElem?_cons_zero]); (first | done | rfl))))
 (refine qA3 rfl ?_; have K1 : Mk B none w1 (w1.alloc (.cells #[.int .u8 58] 5)).drew := ((Mk.refl B none w1).alloc (q1.le (Gd.le hg)) _).drew; (with_reducible refine qQ2 B (.tmp 13) (.tmp 14) 128 ?_ underlying128 qDa _ _ (58 : UInt8) w1.heap.size ?_ ?_ ?_ (Buf.drew (Buf.alloc hb1 _)) ((q1.trans K1).le (Gd.le hg)) ?_ ?_); (focus rfl); (focus rfl); (focus rfl); (focus exact ((Blk.made w1 [.int .u8 58] 5).drew).cell 0 rfl); (focus ((try simp only [length_append, length_cons, length_nil, qAf] at hl ⊢); omega)); intro v2 w2 hb2 hm2; have q2 := (q1.trans K1).trans hm2; have H2 := hm2.blk ((H1.alloc _).drew) (by decide) (by simp))
 refine hK.out _ _ ?_ (fun hHeld => ?_)
 · exact H2.cell 1 rfl
 clear hK K
 (try simp only [sP])
 (refine' qFx (i := 5) (o := ?oa5) (by kernel_rfl) ?hoa5 (by decide) (fun K hK => ?_); (case hoa5 => ((simp only [List.getElem?_toArray, List.getElem?_cons_succ, List.getElem?_cons_zero]); (first | done | rfl))))
 (refine qA3 rfl ?_; (with_reducible refine qA9 B (.tmp 15) (.tmp 17) 128 9 ?_ underlying128 underlying9 qDa _ _ x.val ?_ ?_ hb2 (q2.le (Gd.le hg)) ?_ ?_); (focus rfl); (focus rfl); (focus rfl); (focus ((try simp only [length_append, length_cons, length_nil, qAf] at hl ⊢); omega)); intro v3 w3 hb3 hm3; have q3 := q2.trans hm3; have H3 := hm3.blk H2 (by decide) (by simp))
 refine hK.out _ _ ?_ (fun hHeld => ?_)
 · exact H3.cell 1 rfl
 clear hK K
 (try simp only [sP])
 (refine' qH3 (o := ?oa6) (by kernel_rfl) ?hoa6 (by kernel_rfl) (fun K hK => ?_); (case hoa6 => ((simp only [List.getElem?_toArray, List.getElem?_cons_succ, List.getElem?_cons_zero]); (first | done | rfl))))
 go_simp
 refine hK.out _ _ ?_
 clear hK K
 go_wp2
 go_ret
 exact ⟨v3, rfl, by simpa only [append_assoc, cons_append, nil_append] using hb3, q3⟩
set_option maxRecDepth 100000 in
theorem qQ7 (B : Nat) (p : Int) (ps : List Int) (p1 : Value) (wd w : World) (v : Value) (l : List UInt8) (h1 : tyI.Pt wd ps p1) (hd : Nw wd w) (hB : wd.heap.size <= B) (hb : Buf w B v l) (hg : Gd B w) (hw : qAg .i64 p) (hp : 0 <= p) (hz : ∀ n ∈ ps, 0 <= n) (hl : l.length + ((decDigits (Int.toNat (p % 18446744073709551616))) ++ qAx ps).length + 64 <= 140737488355328) :
 Calls prog 130 #[.agg #[.int .i64 p, p1], v] w (qBh B w l ((decDigits (Int.toNat (p % 18446744073709551616))) ++ qAx ps)) := by
 have g1 := qEf hp hw
 rcases h1 with ⟨e1, rfl⟩ | ⟨y, b1, e1, rfl, h1⟩
 · have ht : (decDigits (Int.toNat (p % 18446744073709551616))) ++ qAx ps = (decDigits (Int.toNat (p % 18446744073709551616))) := by simp [qAx, e1]
   rw [ht] at hl ⊢
   rw [<- g1] at hl ⊢
   clear ht hz
   obtain ⟨g, hgg⟩ : ∃ g, g = w.heap.size := ⟨_, rfl⟩
   obtain ⟨w0, hw0⟩ : ∃ w0, w0 = w.alloc (.cells #[.int .i64 p, .pointer none] 202) := ⟨_, rfl⟩
   have q0 : Mk B none w w0 := by rw [hw0]; exact (Mk.refl _ _ _).alloc hg.1 _
   have H0 : Blk w0 g [.int .i64 p, .pointer none] 202 := by rw [hw0, hgg]; exact Blk.made w _ 202
   have hb0 : Buf w0 B v l := by rw [hw0]; exact hb.alloc _
   have c0_0 := H0.cell 0 rfl
   have c0_1 := H0.cell 1 rfl
   go_enter func130, ntmps130
   go_upto_region 1 with fail
   rw [<- hw0, <- hgg]
   clear hw0 hgg
   go_wp2_with (first
   | (go_at_call 126; (with_reducible refine (qDw B p _ _ _ hb0 (hg.on q0) hw ?_).mono ?_); (focus ((try simp only [length_append, length_cons, length_nil, qAf] at hl ⊢); omega)); rintro e w1 ⟨v1, rfl, hb1, hm1⟩; have q1 := q0.trans hm1; have H1 := hm1.blk H0 (by decide) (by simp); have c1_0 := H1.cell 0 rfl; have c1_1 := H1.cell 1 rfl))
   go_ret
   exact ⟨v1, rfl, by simpa only [append_assoc, cons_append, nil_append] using hb1, q1⟩
 obtain ⟨d1, f1⟩ := qG5 h1
 have g2 := qEf (hz y (by simp [e1])) f1
 have ht : (decDigits (Int.toNat (p % 18446744073709551616))) ++ qAx ps = (decDigits (Int.toNat (p % 18446744073709551616))) ++ (47 :: (decDigits (Int.toNat (y % 18446744073709551616)))) := by simp [qAx, e1]
 rw [ht] at hl ⊢
 rw [<- g1, <- g2] at hl ⊢
 clear ht hz
 obtain ⟨g, hgg⟩ : ∃ g, g = w.heap.size := ⟨_, rfl⟩
 obtain ⟨w0, hw0⟩ : ∃ w0, w0 = w.alloc (.cells #[.int .i64 p, .pointer (some ⟨b1, 0, none⟩)] 202) := ⟨_, rfl⟩
 have q0 : Mk B none w w0 := by rw [hw0]; exact (Mk.refl _ _ _).alloc hg.1 _
 have H0 : Blk w0 g [.int .i64 p, .pointer (some ⟨b1, 0, none⟩)] 202 := by rw [hw0, hgg]; exact Blk.made w _ 202
 have hb0 : Buf w0 B v l := by rw [hw0]; exact hb.alloc _
 have c0_0 := H0.cell 0 rfl
 have c0_1 := H0.cell 1 rfl
 go_enter func130, ntmps130
 go_upto_region 1 with fail
 rw [<- hw0, <- hgg]
 clear hw0 hgg
 go_wp2_with (first
 | (go_at_call 126; (with_reducible refine (qDw B p _ _ _ hb0 (hg.on q0) hw ?_).mono ?_); (focus ((try simp only [length_append, length_cons, length_nil, qAf] at hl ⊢); omega)); rintro e w1 ⟨v1, rfl, hb1, hm1⟩; have q1 := q0.trans hm1; have H1 := hm1.blk H0 (by decide) (by simp); have c1_0 := H1.cell 0 rfl; have c1_1 := H1.cell 1 rfl; have n1 := q1.nw hd hB; have d1_1 := n1.cell d1)
 | (refine qAc rfl fun K hK => ?_; (with_reducible refine qBe B (.tmp 12) (.tmp 13) 128 ?_ underlying128 qDa _ _ (47 : UInt8) 47 ?_ ?_ ?_ hb1 (q1.le (Gd.le hg)) ?_ ?_); (focus rfl); (focus rfl); (focus rfl); (focus rfl); (focus ((try simp only [length_append, length_cons, length_nil, qAf] at hl ⊢); omega)); intro v2 w2 hb2 hm2; refine hK _ _ ?_; have q2 := q1.trans hm2; have H2 := hm2.blk H1 (by decide) (by simp); have c2_0 := H2.cell 0 rfl; have c2_1 := H2.cell 1 rfl; have n2 := q2.nw hd hB; have d1_2 := n2.cell d1)
 | (go_at_call 126; (with_reducible refine (qDw B y _ _ _ hb2 (hg.on q2) f1 ?_).mono ?_); (focus ((try simp only [length_append, length_cons, length_nil, qAf] at hl ⊢); omega)); rintro e w3 ⟨v3, rfl, hb3, hm3⟩; have q3 := q2.trans hm3; have H3 := hm3.blk H2 (by decide) (by simp); have c3_0 := H3.cell 0 rfl; have c3_1 := H3.cell 1 rfl; have n3 := q3.nw hd hB; have d1_3 := n3.cell d1))
 go_ret
 exact ⟨v3, rfl, by simpa only [append_assoc, cons_append, nil_append] using hb3, q3⟩
end Go.Proofs.YtcepdjlknalmnaaGreatDoor

/- Laws of this claim. -/
import Derived.Test.YtcepdjlknalmnaaGreatDoorMri
set_option linter.unusedSimpArgs false
set_option linter.unusedVariables false
namespace Go.Proofs.YtcepdjlknalmnaaGreatDoor
open Tryz
open List (cons_append nil_append length_append length_cons length_nil append_assoc)
open Lib (itoa hid)
open Go.RowKit
attribute [local go_sem ↓] Go.wp_at_zero Go.wp_at_succ
theorem Buf.form3 {w : World} {B : Nat} {v : Value} {l : List UInt8} (h : Buf w B v l) : ∃ A n c, v = .slice A n c := by
 obtain ⟨A, c, h⟩ := h.form
 exact ⟨A, _, c, h⟩
theorem qLh {xs : List Int} {k : Nat} (h : k < xs.length) : qBt (xs.take (k + 1)) = qBt (xs.take k) ++ (32 :: (itoa xs[k])) := by
 rw [qAt h]
 simp only [qBt, List.flatMap_append, List.flatMap_cons, List.flatMap_nil, List.append_nil, cons_append, nil_append]
set_option maxRecDepth 100000 in
theorem into_rep (B : Nat) (x : Rep) (p1 : Value) (wd w : World) (v : Value) (l : List UInt8) (h1 : tyI.Sl wd x.offs p1) (hd : Nw wd w) (hB : wd.heap.size <= B) (hb : Buf w B v l) (hg : Gd B w) (h2 : qAg .i64 x.ivl) (h3 : qAg .i64 x.dur) (hl : l.length + ((itoa x.ivl) ++ (32 :: ((itoa x.dur) ++ qBt x.offs))).length + 64 <= 140737488355328) :
 Calls prog 97 #[.agg #[.int .i64 x.ivl, .int .i64 x.dur, p1], v] w (qBh B w l ((itoa x.ivl) ++ (32 :: ((itoa x.dur) ++ qBt x.offs)))) := by
 obtain ⟨A, n, rfl⟩ := Ty.Sl_form h1
 have hm := h1.1
 obtain ⟨tb, htb⟩ : ∃ tb, tb = l ++ (itoa x.ivl) ++ [32] ++ (itoa x.dur) := ⟨_, rfl⟩
 have htl : tb.length + (qBt x.offs).length + 64 <= 140737488355328 := by
  rw [htb]
  simp only [length_append, length_cons, length_nil] at hl ⊢
  omega
 obtain ⟨g, hgg⟩ : ∃ g, g = w.heap.size := ⟨_, rfl⟩
 obtain ⟨w0, hw0⟩ : ∃ w0, w0 = w.alloc (.cells #[.int .i64 x.ivl, .int .i64 x.dur, .slice A x.offs.length n] 178) := ⟨_, rfl⟩
 have q0 : Mk B none w w0 := by rw [hw0]; exact (Mk.refl _ _ _).alloc hg.1 _
 have H0 : Blk w0 g [.int .i64 x.ivl, .int .i64 x.dur, .slice A x.offs.length n] 178 := by rw [hw0, hgg]; exact Blk.made w _ 178
 have hb0 : Buf w0 B v l := by rw [hw0]; exact hb.alloc _
 have c0_0 := H0.cell 0 rfl
 have c0_1 := H0.cell 1 rfl
 have c0_2 := H0.cell 2 rfl
 go_enter func97, ntmps97
 go_upto_region 1 with fail
 rw [<- hw0, <- hgg]
 clear hw0 hgg
 go_upto_region 4 with (first
  | (go_at_call 126; (with_reducible refine (qDw B x.ivl _ _ _ hb0 (hg.on q0) h2 ?_).mono ?_); (focus ((try simp only [length_append, length_cons, length_nil, qAf] at hl ⊢); omega)); rintro e w1 ⟨v1, rfl, hb1, hm1⟩; have q1 := q0.trans hm1; have H1 := hm1.blk H0 (by decide) (by simp); have c1_0 := H1.cell 0 rfl; have c1_1 := H1.cell 1 rfl; have c1_2 := H1.cell 2 rfl)
  | (refine qAc rfl fun K hK => ?_; (with_reducible refine qBe B (.tmp 11) (.tmp 12) 128 ?_ underlying128 qDa _ _ (32 : UInt8) 32 ?_ ?_ ?_ hb1 (q1.le (Gd.le hg)) ?_ ?_); (focus rfl); (focus rfl); (focus rfl); (focus rfl); (focus ((try simp only [length_append, length_cons, length_nil, qAf] at hl ⊢); omega)); intro v2 w2 hb2 hm2; refine hK _ _ ?_; have q2 := q1.trans hm2; have H2 := hm2.blk H1 (by decide) (by simp); have c2_0 := H2.cell 0 rfl; have c2_1 := H2.cell 1 rfl; have c2_2 := H2.cell 2 rfl)
  | (go_at_call 126; (with_reducible refine (qDw B x.dur _ _ _ hb2 (hg.on q2) h3 ?_).mono ?_); (focus ((try simp only [length_append, length_cons, length_nil, qAf] at hl ⊢); omega)); rintro e w3 ⟨v3, rfl, hb3, hm3⟩; have q3 := q2.trans hm3; have H3 := hm3.blk H2 (by decide) (by simp); have c3_0 := H3.cell 0 rfl; have c3_1 := H3.cell 1 rfl; have c3_2 := H3.cell 2 rfl))
 rw [<- htb] at hb3
 have HT := hid htb
 clear htb hl
 go_wp2
 go_loopw [1, 21] (fun vb i wr => ∃ k : Nat, k <= x.offs.length /\ i = .int .i64 k /\ Buf wr B vb (tb ++ qBt (x.offs.take k)) /\ Mk B none w3 wr) (fun _ i _ => x.offs.length - (intOf i).toNat)
 case atStart => exact ⟨0, Nat.zero_le _, rfl, by simpa [qBt] using hb3, Mk.refl _ _ _⟩
 obtain ⟨k, hk, rfl, hb0, hmk⟩ := hrel
 have q0 : Mk B none w wr := q3.trans hmk
 by_cases hlt : k < x.offs.length
 · obtain ⟨b, o, rfl, ha⟩ := Ty.Sl_at h1 k hlt
   obtain ⟨cs, ⟨rfl, hwf⟩, hx⟩ := ha k _ (List.getElem?_eq_getElem hlt)
   have c0 := (q0.nw hd hB).cell (hx 0 _ rfl)
   simp only [tyI, qCn, Ty.flat, Nat.mul_one, Nat.add_zero] at c0
   have k1 : (0 : Int) <= (k : Int) := by omega
   have k2 : (k : Int) < (x.offs.length : Int) := by omega
   have k3 : (k : Int) <= (x.offs.length : Int) := by omega
   have hle := qLr x.offs (k + 1)
   have hsn := qLh hlt
   rw [hsn] at hle
   simp only [length_append, length_cons] at hle
   have HSN := hid hsn
   clear hsn hx ha
   go_wp2_with (first
    | (refine qAc rfl fun K hK => ?_; (with_reducible refine qBe B (.tmp 25) (.tmp 26) 128 ?_ underlying128 qDa _ _ (32 : UInt8) 32 ?_ ?_ ?_ hb0 (q0.le (Gd.le hg)) ?_ ?_); (focus rfl); (focus rfl); (focus rfl); (focus rfl); (focus ((try simp only [length_append, length_cons, length_nil, qAf]); omega)); intro v5 w5 hb5 hm5; refine hK _ _ ?_; have q5 := q0.trans hm5)
    | (go_at_call 126; (with_reducible refine (qDw B x.offs[k] _ _ _ hb5 (hg.on q5) hwf ?_).mono ?_); (focus ((try simp only [length_append, length_cons, length_nil, qAf]); omega)); rintro e w6 ⟨v6, rfl, hb6, hm6⟩; have q6 := q5.trans hm6))
   exact ⟨⟨k + 1, by omega, by go_num, by rw [HSN.out]; simpa only [append_assoc, cons_append, nil_append] using hb6, (hmk.trans hm5).trans hm6⟩, by simp [intOf]; omega⟩
 rw [List.take_of_length_le (by omega)] at hb0
 go_wp2
 go_ret
 have hf : Buf wr B _ (l ++ ((itoa x.ivl) ++ (32 :: ((itoa x.dur) ++ qBt x.offs)))) := (by rw [HT.out] at hb0; simpa only [append_assoc, cons_append, nil_append] using hb0)
 exact ⟨_, rfl, hf, q0⟩
theorem qJ7 (s : UInt8) (xs : List ByteArray) {k : Nat} (h : k < xs.length) : qAk [s] (xs.take (k + 1)) = if k = 0 then bs xs[k] else qAk [s] (xs.take k) ++ (s :: bs xs[k]) := by
 have hj := qGs [s] (xs.take k) xs[k]
 have hl0 : (xs.take k).length = k := by simp; omega
 rw [qAt h, hj, hl0]
 rfl
set_option maxRecDepth 100000 in
theorem qLi (B : Nat) (xs : List ByteArray) (p : Value) (sep : UInt8) (sn : Int) (hs : sn = (sep.toNat : Int)) (gm : Nat) (wd w : World) (v : Value) (l : List UInt8) (h1 : qAd.Sl wd xs p) (hd : Nw wd w) (hB : wd.heap.size <= B) (hgm : Blk w gm [v] 128) (hgB : B <= gm) (hb : Buf w B v l) (hg : Gd B w) (hl : l.length + (qAk [sep] xs).length + 64 <= 140737488355328) :
 Calls prog 129 #[p, .int .u8 sn, .pointer (some ⟨gm, 0, none⟩)] w fun e w' => e = .returned (.tuple #[]) /\ ∃ v', Blk w' gm [v'] 128 /\ Buf w' B v' (l ++ qAk [sep] xs) /\ Mk B (some gm) w w' := by
 subst hs
 obtain ⟨A, n, rfl⟩ := Ty.Sl_form h1
 have hm := h1.1
 go_enter func129, ntmps129
 go_wp2
 go_loopw [9] (fun i wr => ∃ k : Nat, k <= xs.length /\ i = .int .i64 k /\ ∃ vb, Blk wr gm [vb] 128 /\ Buf wr B vb (l ++ qAk [sep] (xs.take k)) /\ Mk B (some gm) w wr) (fun i _ => xs.length - (intOf i).toNat)
 case atStart => exact ⟨0, Nat.zero_le _, rfl, v, hgm, by simpa [qAk] using hb, Mk.refl _ _ _⟩
 obtain ⟨k, hk, rfl, _, hG, hb0, q0⟩ := hrel
 obtain ⟨A0, n0, e0, rfl⟩ := hb0.form3
 by_cases hlt : k < xs.length
 · obtain ⟨b, o, rfl, ha⟩ := Ty.Sl_at h1 k hlt
   obtain ⟨cs, ⟨rfl, hwf⟩, hx⟩ := ha k _ (List.getElem?_eq_getElem hlt)
   have c0 := (q0.nw hd hB).cell (hx 0 _ rfl)
   simp only [qAd, Ty.flat, Nat.mul_one, Nat.add_zero] at c0
   have k1 : (0 : Int) <= (k : Int) := by omega
   have k2 : (k : Int) < (xs.length : Int) := by omega
   have k3 : (k : Int) <= (xs.length : Int) := by omega
   have k4 : ¬ (k : Int) = (xs.length : Int) := by omega
   have hle := qHl [sep] xs (k + 1)
   have hsn := qJ7 sep xs hlt
   have g0 := hG.cell 0 rfl
   have f0 := hG.fz 0
   clear hx ha
   by_cases hk0 : k = 0
   · subst hk0
     rw [if_pos rfl] at hsn
     rw [hsn, qAf] at hle
     have HSN := hid hsn
     clear hsn
     have hb0 : Buf wr B (.slice A0 n0 e0) l := by simpa [qAk] using hb0
     simp only [Nat.zero_add, Nat.mul_zero, Nat.zero_mul, Nat.add_zero] at c0
     go_wp2_with (refine qAc rfl fun K hK => ?_; (with_reducible refine qA9 B (.tmp 26) (.tmp 27) 128 9 ?_ underlying128 underlying9 qDa _ _ xs[0] ?_ ?_ hb0 (q0.le (Gd.le hg)) ?_ ?_); (focus rfl); (focus rfl); (focus rfl); (focus omega); intro v5 w5 hb5 hm5; obtain ⟨A5, n5, c5, rfl⟩ := hb5.form3; refine hK _ _ ?_; have hG5 := hm5.blk hG (by decide) (by simp); have g5 := hG5.cell 0 rfl; have f5 := hG5.fz 0)
     exact ⟨⟨1, by omega, by go_num, .slice A5 n5 c5, hG5.set 0 (.slice A5 n5 c5), by rw [HSN.out]; exact hb5.set hG5 (by decide) _, (q0.trans hm5.weak).setCell hgB _⟩, by simp [intOf]; omega⟩
   rw [if_neg hk0] at hsn
   rw [hsn] at hle
   simp only [length_append, length_cons, qAf] at hle
   have HSN := hid hsn
   clear hsn
   have k5 : ¬ (k : Int) = 0 := by omega
   have k6 : ¬ (0 : Int) = (k : Int) := by omega
   have k7 : ((k : Int) != 0) = true := by simp; omega
   have k8 : ((k : Int) != (xs.length : Int)) = true := by simp; omega
   go_wp2_with (first
    | (refine qAc rfl fun K hK => ?_; (with_reducible refine qBe B (.tmp 22) (.tmp 24) 128 ?_ underlying128 qDa _ _ sep (sep.toNat : Int) ?_ ?_ ?_ hb0 (q0.le (Gd.le hg)) ?_ ?_); (focus rfl); (focus rfl); (focus rfl); (focus rfl); (focus ((try simp only [length_append, length_cons, length_nil, qAf]); omega)); intro v5 w5 hb5 hm5; obtain ⟨A5, n5, c5, rfl⟩ := hb5.form3; refine hK _ _ ?_; have hG5 := hm5.blk hG (by decide) (by simp); have g5 := hG5.cell 0 rfl; have f5 := hG5.fz 0; have hG6 := hG5.set 0 (.slice A5 n5 c5); have hb6 := hb5.set (j := 0) hG5 (by decide) (.slice A5 n5 c5); have q6 : Mk B (some gm) w (w5.setCell ⟨gm, 0, none⟩ (.slice A5 n5 c5)) := (q0.trans hm5.weak).setCell hgB _)
    | (refine qAc rfl fun K hK => ?_; (with_reducible refine qA9 B (.tmp 26) (.tmp 27) 128 9 ?_ underlying128 underlying9 qDa _ _ xs[k] ?_ ?_ hb6 (q6.le (Gd.le hg)) ?_ ?_); (focus rfl); (focus rfl); (focus rfl); (focus ((try simp only [length_append, length_cons, length_nil, qAf]); omega)); intro v7 w7 hb7 hm7; obtain ⟨A7, n7, c7, rfl⟩ := hb7.form3; refine hK _ _ ?_; have hG7 := hm7.blk hG6 (by decide) (by simp); have g7 := hG7.cell 0 rfl; have f7 := hG7.fz 0))
   exact ⟨⟨k + 1, by omega, by go_num, .slice A7 n7 c7, hG7.set 0 (.slice A7 n7 c7), by rw [HSN.out]; have := hb7.set (j := 0) hG7 (by decide) (.slice A7 n7 c7); simpa only [append_assoc, cons_append, nil_append] using this, (q6.trans hm7.weak).setCell hgB _⟩, by simp [intOf]; omega⟩
 rw [List.take_of_length_le (by omega)] at hb0
 go_wp2
 refine ⟨rfl, _, results_none rfl _ _ _, rfl, _, hG, hb0, q0⟩
set_option maxRecDepth 100000 in
theorem add_kv (B : Nat) (key : List UInt8) (F : FuncId) (rcv : Value) (t : List UInt8) (gm : Nat) (w : World) (v : Value) (l : List UInt8) (hen : ∀ args w, (callFunc F args).run prog w = .ok (.enter F args) w) (hG0 : Blk w gm [v] 193) (hgB : B <= gm) (hb0 : Buf w B v l) (hg : Gd B w) (hk : key.length <= 2) (hl : l.length + t.length + 128 <= 140737488355328)
 (hF : ∀ w1 v1, Buf w1 B v1 (l ++ key) -> Mk B (some gm) w w1 -> Calls prog F #[rcv, v1] w1 (qBh B w1 (l ++ key) t)) :
 Calls prog 86 #[.pointer (some ⟨gm, 0, none⟩), .string (mk key), .func (.func F) #[rcv] #[]] w fun e w' => e = .returned (.tuple #[]) /\ ∃ v', Blk w' gm [v'] 193 /\ Buf w' B v' (l ++ (key ++ t ++ [13, 10])) /\ Mk B (some gm) w w' := by
 have HF := hid hF
 obtain ⟨A0, n0, c0, rfl⟩ := hb0.form3
 have hks : (mk key).size = key.length := qAy _
 have g0 := hG0.cell 0 rfl
 have f0 := hG0.fz 0
 have q0 := Mk.refl B (some gm) w
 clear hF
 go_enter func86, ntmps86
 go_wp2_with (first
  | (refine qAc rfl fun K hK => ?_; (with_reducible refine qA9 B (.tmp 9) (.tmp 10) 193 9 ?_ underlying193 underlying9 qDa _ _ (mk key) ?_ ?_ hb0 (q0.le (Gd.le hg)) ?_ ?_); (focus rfl); (focus rfl); (focus rfl); (focus (rw [hks]; omega)); intro v1 w1 hb1 hm1; obtain ⟨A1, n1, c1, rfl⟩ := hb1.form3; replace hb1 : Buf w1 B (.slice A1 n1 c1) (l ++ key) := hb1; refine hK _ _ ?_; have hG1 := hm1.blk hG0 (by decide) (by simp); have g1 := hG1.cell 0 rfl; have f1 := hG1.fz 0; have hG2 := hG1.set 0 (.slice A1 n1 c1); have hb2 := hb1.set (j := 0) hG1 (by decide) (.slice A1 n1 c1); have q2 : Mk B (some gm) w (w1.setCell ⟨gm, 0, none⟩ (.slice A1 n1 c1)) := (q0.trans hm1.weak).setCell hgB _)
  | (go_at_fn F; (with_reducible refine (HF.out _ _ hb2 q2).mono ?_); rintro e w3 ⟨v3, rfl, hb3, hm3⟩; obtain ⟨A3, n3, c3, rfl⟩ := hb3.form3; have hG3 := hm3.blk hG2 (by decide) (by simp); have g3 := hG3.cell 0 rfl; have f3 := hG3.fz 0; have hG4 := hG3.set 0 (.slice A3 n3 c3); have hb4 := hb3.set (j := 0) hG3 (by decide) (.slice A3 n3 c3); have q4 : Mk B (some gm) w (w3.setCell ⟨gm, 0, none⟩ (.slice A3 n3 c3)) := (q2.trans hm3.weak).setCell hgB _)
  | (refine qAc rfl fun K hK => ?_; (with_reducible refine qA9 B (.tmp 23) (.const (.string ⟨#[13, 10]⟩)) 193 9 ?_ underlying193 underlying9 qDa _ _ ⟨#[13, 10]⟩ ?_ ?_ hb4 (q4.le (Gd.le hg)) ?_ ?_); (focus rfl); (focus rfl); (focus rfl); (focus (show (l ++ key ++ t).length + 2 <= 140737488355328; simp only [length_append]; omega)); intro v5 w5 hb5 hm5; obtain ⟨A5, n5, c5, rfl⟩ := hb5.form3; replace hb5 : Buf w5 B (.slice A5 n5 c5) ((l ++ key ++ t) ++ [13, 10]) := hb5; refine hK _ _ ?_; have hG5 := hm5.blk hG4 (by decide) (by simp); have g5 := hG5.cell 0 rfl; have f5 := hG5.fz 0))
 refine ⟨rfl, _, results_none rfl _ _ _, rfl, .slice A5 n5 c5, hG5.set 0 (.slice A5 n5 c5), ?_, (q4.trans hm5.weak).setCell hgB _⟩
 have := hb5.set (j := 0) hG5 (by decide) (.slice A5 n5 c5)
 simpa only [append_assoc, cons_append, nil_append] using this
theorem qQ8 : ∀ args w, (callFunc 129 args).run prog w = .ok (.enter 129 args) w := enters_of func129 (by kernel_rfl) rfl
theorem Mk.drop {B g : Nat} {w wA w' : World} (h : Mk B (some g) wA w') (hn : Nw w wA) (hg : w.heap.size <= g) (hB : B <= w.heap.size) : Mk B none w w' :=
 ⟨(Below.mono hn hB).trans h.1, fun k o hk _ ho => by
  have hlt := (Array.getElem?_eq_some_iff.1 hk).1
  exact h.2 k o ((hn.block k hlt).trans hk) (fun e => by injection e with e; omega) ho⟩
set_option maxRecDepth 100000 in
set_option maxHeartbeats 1000000 in
theorem into_med (B : Nat) (x : Med) (p0 p1 p2 : Value) (wd w : World) (v : Value) (l : List UInt8) (h0 : tyI.Pt wd x.ports p0) (h1 : qAd.Sl wd x.protos p1) (h2 : qAd.Sl wd x.fmts p2) (hd : Nw wd w) (hB : wd.heap.size <= B) (hb : Buf w B v l) (hg : Gd B w) (hw : qAg .i64 x.port) (hp : 0 <= x.port) (hz : ∀ n ∈ x.ports, 0 <= n)
 (hl : l.length + (bs x.name ++ (32 :: (((Lib.decDigits (Int.toNat (x.port % 18446744073709551616))) ++ qAx x.ports) ++ (32 :: (qAk [47] x.protos ++ (32 :: qAk [32] x.fmts)))))).length + 128 <= 140737488355328) :
 Calls prog 101 #[.agg #[.string x.name, .int .i64 x.port, p0, p1, p2], v] w (qBh B w l (bs x.name ++ (32 :: (((Lib.decDigits (Int.toNat (x.port % 18446744073709551616))) ++ qAx x.ports) ++ (32 :: (qAk [47] x.protos ++ (32 :: qAk [32] x.fmts))))))) := by
 have hmf : ∀ (fn : Fn) (first cap : Array Value) (w : World), (Instr.makeFunc fn first cap).run prog w = .ok (.func fn first cap) w := fun _ _ _ _ => rfl
 have hen := qQ8
 simp only [length_append, length_cons, length_nil, qAf] at hl
 obtain ⟨A1, n1, rfl⟩ := Ty.Sl_form h1
 obtain ⟨A2, n2, rfl⟩ := Ty.Sl_form h2
 obtain ⟨Ap, rfl⟩ := Ty.Pt_form h0
 obtain ⟨A0, n0, c0, rfl⟩ := hb.form3
 obtain ⟨g, hgg⟩ : ∃ g, g = w.heap.size := ⟨_, rfl⟩
 obtain ⟨gm, hgm⟩ : ∃ g, g = w.heap.size + 1 := ⟨_, rfl⟩
 obtain ⟨w10, hw0⟩ : ∃ w0, w0 = (w.alloc (.cells #[.string x.name, .int .i64 x.port, .pointer Ap, .slice A1 x.protos.length n1, .slice A2 x.fmts.length n2] 204)).alloc (.cells #[.slice A0 n0 c0] 128) := ⟨_, rfl⟩
 have nA : Nw w w10 := by rw [hw0]; exact ((Nw.refl w).alloc _).alloc _
 have H10 : Blk w10 g [.string x.name, .int .i64 x.port, .pointer Ap, .slice A1 x.protos.length n1, .slice A2 x.fmts.length n2] 204 := by rw [hw0, hgg]; exact (Blk.made w _ 204).alloc _
 have M10 : Blk w10 gm [.slice A0 n0 c0] 128 := by
  have := Blk.made (w.alloc (.cells #[.string x.name, .int .i64 x.port, .pointer Ap, .slice A1 x.protos.length n1, .slice A2 x.fmts.length n2] 204)) [.slice A0 n0 c0] 128
  rw [hw0, hgm]; simpa using this
 have hb10 : Buf w10 B (.slice A0 n0 c0) l := hb.nw nA
 have hgA : B <= w10.heap.size := Nat.le_trans hg.1 nA.size
 have hgG : Gd B w10 := hg.on (Mk.ofNw (b := none) nA hg.1)
 have hgB : B <= gm := by have := hg.1; omega
 have hne : ¬ g = gm := by omega
 have hgw : w.heap.size <= gm := by omega
 have hdA := hd.trans nA
 have q10 := Mk.refl B (some gm) w10
 have e10_0 := H10.cell 0 rfl; have e10_1 := H10.cell 1 rfl; have e10_2 := H10.cell 2 rfl; have e10_3 := H10.cell 3 rfl; have e10_4 := H10.cell 4 rfl
 have m10 := M10.cell 0 rfl
 have z10 := M10.fz 0
 have HN := hid hgw
 have HG := hid hg
 clear hb hg hd hgw
 go_enter func101, ntmps101
 go_upto_region 1 with fail
 rw [<- hgm, <- hw0, <- hgg]
 clear hw0 hgg hgm
 go_wp2_with (first
  | (refine qAc rfl fun K hK => ?_; (with_reducible refine qA9 B (.tmp 7) (.tmp 9) 128 9 ?_ underlying128 underlying9 qDa _ _ x.name ?_ ?_ hb10 (q10.le hgA) ?_ ?_); (focus rfl); (focus rfl); (focus rfl); (focus ((try simp only [length_append, length_cons, length_nil, qAf]); omega)); intro v11 w11 hb11 hm11; refine hK _ _ ?_; obtain ⟨A11, n11, c11, rfl⟩ := hb11.form3; have H11 := hm11.blk H10 (by decide) (by simp); have M11 := hm11.blk M10 (by decide) (by simp); have q11 := q10.trans hm11.weak; have m11 := M11.cell 0 rfl; have z11 := M11.fz 0)
  | (refine qAc rfl fun K hK => ?_; (with_reducible refine qBe B (.tmp 10) (.tmp 11) 128 ?_ underlying128 qDa _ _ (32 : UInt8) 32 ?_ ?_ ?_ hb11 (q11.le hgA) ?_ ?_); (focus rfl); (focus rfl); (focus rfl); (focus rfl); (focus ((try simp only [length_append, length_cons, length_nil, qAf]); omega)); intro v12 w12 hb12 hm12; refine hK _ _ ?_; obtain ⟨A12, n12, c12, rfl⟩ := hb12.form3; have H12 := hm12.blk H11 (by decide) (by simp); have M12 := hm12.blk M11 (by decide) (by simp); have q12 := q11.trans hm12.weak; have m12 := M12.cell 0 rfl; have z12 := M12.fz 0; have H13 := H12.other (p := ⟨gm, 0, none⟩) hne (.slice A12 n12 c12); have M13 : Blk _ gm [.slice A12 n12 c12] 128 := M12.set 0 (.slice A12 n12 c12); have hb13 := hb12.set (j := 0) M12 (by decide) (.slice A12 n12 c12); have q13 := q12.setCell (j := 0) hgB (.slice A12 n12 c12); have e13_0 := H13.cell 0 rfl; have e13_1 := H13.cell 1 rfl; have e13_2 := H13.cell 2 rfl; have e13_3 := H13.cell 3 rfl; have e13_4 := H13.cell 4 rfl; have m13 := M13.cell 0 rfl; have z13 := M13.fz 0)
  | (go_at_call 130; (with_reducible refine (qQ7 B x.port x.ports _ wd _ _ _ h0 (q13.nw hdA hB) hB hb13 (hgG.on q13) hw hp hz ?_).mono ?_); (focus ((try simp only [length_append, length_cons, length_nil, qAf]); omega)); rintro e w14 ⟨v14, rfl, hb14, hm14⟩; obtain ⟨A14, n14, c14, rfl⟩ := hb14.form3; have H14 := hm14.blk H13 (by decide) (by simp); have M14 := hm14.blk M13 (by decide) (by simp); have q14 := q13.trans hm14.weak; have m14 := M14.cell 0 rfl; have z14 := M14.fz 0)
  | (refine qAc rfl fun K hK => ?_; (with_reducible refine qBe B (.tmp 16) (.tmp 17) 128 ?_ underlying128 qDa _ _ (32 : UInt8) 32 ?_ ?_ ?_ hb14 (q14.le hgA) ?_ ?_); (focus rfl); (focus rfl); (focus rfl); (focus rfl); (focus ((try simp only [length_append, length_cons, length_nil, qAf]); omega)); intro v15 w15 hb15 hm15; refine hK _ _ ?_; obtain ⟨A15, n15, c15, rfl⟩ := hb15.form3; have H15 := hm15.blk H14 (by decide) (by simp); have M15 := hm15.blk M14 (by decide) (by simp); have q15 := q14.trans hm15.weak; have m15 := M15.cell 0 rfl; have z15 := M15.fz 0; have H16 := H15.other (p := ⟨gm, 0, none⟩) hne (.slice A15 n15 c15); have M16 : Blk _ gm [.slice A15 n15 c15] 128 := M15.set 0 (.slice A15 n15 c15); have hb16 := hb15.set (j := 0) M15 (by decide) (.slice A15 n15 c15); have q16 := q15.setCell (j := 0) hgB (.slice A15 n15 c15); have e16_0 := H16.cell 0 rfl; have e16_1 := H16.cell 1 rfl; have e16_2 := H16.cell 2 rfl; have e16_3 := H16.cell 3 rfl; have e16_4 := H16.cell 4 rfl; have m16 := M16.cell 0 rfl; have z16 := M16.fz 0)
  | (go_at_call 129; (with_reducible refine (qLi B x.protos _ 47 47 rfl gm wd _ _ _ h1 (q16.nw hdA hB) hB M16 hgB hb16 (hgG.on q16) ?_).mono ?_); (focus ((try simp only [length_append, length_cons, length_nil, qAf]); omega)); rintro e w17 ⟨rfl, v17, M17, hb17, hm17⟩; obtain ⟨A17, n17, c17, rfl⟩ := hb17.form3; have H17 := hm17.blk H16 (by decide) (by simpa using hne); have q17 := q16.trans hm17; have m17 := M17.cell 0 rfl; have z17 := M17.fz 0)
  | (refine qAc rfl fun K hK => ?_; (with_reducible refine qBe B (.tmp 23) (.tmp 24) 128 ?_ underlying128 qDa _ _ (32 : UInt8) 32 ?_ ?_ ?_ hb17 (q17.le hgA) ?_ ?_); (focus rfl); (focus rfl); (focus rfl); (focus rfl); (focus ((try simp only [length_append, length_cons, length_nil, qAf]); omega)); intro v18 w18 hb18 hm18; refine hK _ _ ?_; obtain ⟨A18, n18, c18, rfl⟩ := hb18.form3; have H18 := hm18.blk H17 (by decide) (by simp); have M18 := hm18.blk M17 (by decide) (by simp); have q18 := q17.trans hm18.weak; have m18 := M18.cell 0 rfl; have z18 := M18.fz 0; have H19 := H18.other (p := ⟨gm, 0, none⟩) hne (.slice A18 n18 c18); have M19 : Blk _ gm [.slice A18 n18 c18] 128 := M18.set 0 (.slice A18 n18 c18); have hb19 := hb18.set (j := 0) M18 (by decide) (.slice A18 n18 c18); have q19 := q18.setCell (j := 0) hgB (.slice A18 n18 c18); have e19_0 := H19.cell 0 rfl; have e19_1 := H19.cell 1 rfl; have e19_2 := H19.cell 2 rfl; have e19_3 := H19.cell 3 rfl; have e19_4 := H19.cell 4 rfl; have m19 := M19.cell 0 rfl; have z19 := M19.fz 0)
  | (go_at_call 129; (with_reducible refine (qLi B x.fmts _ 32 32 rfl gm wd _ _ _ h2 (q19.nw hdA hB) hB M19 hgB hb19 (hgG.on q19) ?_).mono ?_); (focus ((try simp only [length_append, length_cons, length_nil, qAf]); omega)); rintro e w20 ⟨rfl, v20, M20, hb20, hm20⟩; obtain ⟨A20, n20, c20, rfl⟩ := hb20.form3; have q20 := q19.trans hm20; have m20 := M20.cell 0 rfl))
 go_ret
 have hf : Buf w20 B (.slice A20 n20 c20) (l ++ (bs x.name ++ (32 :: (((Lib.decDigits (Int.toNat (x.port % 18446744073709551616))) ++ qAx x.ports) ++ (32 :: (qAk [47] x.protos ++ (32 :: qAk [32] x.fmts))))))) := by simpa only [append_assoc, cons_append, nil_append] using hb20
 exact ⟨_, rfl, hf, q20.drop nA HN.out HG.out.1⟩
end Go.Proofs.YtcepdjlknalmnaaGreatDoor

/- FnUnknown's walk. Written by a small program of this claim's own (genukn). -/
import Derived.Test.YtcepdjlknalmnaaGreatDoorZwk
namespace Go.Proofs.YtcepdjlknalmnaaGreatDoor
open Go.RowKit
set_option linter.unusedSimpArgs false
set_option linter.unusedVariables false
theorem rowS_form3 {w : World} {B : Nat} {v : Value} {ls : List (List UInt8)} (h : RowS w B v ls) : ∃ A n c, v = .slice A n c := by
  obtain ⟨A, c, h, _⟩ := h.form
  exact ⟨A, _, c, h⟩
theorem rowS_some {w : World} {B n c : Nat} {A : Option Addr} {ls : List (List UInt8)} (h : RowS w B (.slice A n c) ls) (hl : 0 < ls.length) : ∃ b, A = some ⟨b, 0, none⟩ ∧ c ≤ 9223372036854775807 := by
  rcases h.2.2 with ⟨e, h0⟩ | ⟨g, cap, cur, e, hg, hh, hc, hm, _⟩
  · simp at h0
    rw [h0] at hl
    simp at hl
  · injection e with e1 e2 e3
    subst e1; subst e3
    exact ⟨g, rfl, by simpa [maxLen] using hm⟩
theorem enc_all : ∀ k : Fin 91, 65 ≤ k.val → Utf8.encode (k.val : Int) = ⟨#[UInt8.ofNat k.val]⟩ := by decide +kernel
theorem enc_kd {n : Nat} (h1 : 65 ≤ n) (h2 : n ≤ 90) {kd : UInt8} (h : n = kd.toNat) : Utf8.encode (n : Int) = ⟨#[kd]⟩ := by
  have := enc_all ⟨n, by omega⟩ h1
  simp only at this
  rw [this, h]
  simp
theorem rowS_empty {w : World} {B g : Nat} (h : Blk w g [] 9) (hg : B ≤ g) : RowS w B (.slice (some ⟨g, 0, none⟩) 0 0) [] :=
  ⟨by simp, by simp, .inr ⟨g, 0, #[], rfl, hg, h, Nat.le_refl _, by decide, rfl, rfl⟩⟩
theorem sl_take {w : World} {xs : List ByteArray} {b o n c i : Nat} (h : tyStr.Sl w xs (.slice (some ⟨b, o, none⟩) n c)) (hi : i ≤ xs.length) : tyStr.Sl w (xs.take i) (.slice (some ⟨b, o, none⟩) i c) := by
  have hl : (xs.take i).length = i := by simp; omega
  refine ⟨by have := h.1; omega, ?_⟩
  rcases Nat.eq_zero_or_pos i with h0 | h0
  · subst h0
    exact .inl ⟨rfl, _, c, rfl, fun e => by cases e⟩
  · obtain ⟨b', o', e, ha⟩ := Ty.Sl_at h 0 (by omega)
    injection e with e
    injection e with e1 e2
    subst e1; subst e2
    refine .inr ⟨by omega, b, o, c, by rw [hl], ?_, fun k y hk => ?_⟩
    · rcases h.2 with ⟨e, _⟩ | ⟨_, b', o', c', hv, hc, _⟩
      · rw [e] at hi; simp at hi; omega
      · injection hv with _ e2 e3; subst e3; omega
    · rw [List.getElem?_take] at hk
      split at hk
      · exact ha k y hk
      · cases hk
theorem sl_drop {w : World} {xs : List ByteArray} {b o n c i : Nat} (h : tyStr.Sl w xs (.slice (some ⟨b, o, none⟩) n c)) (hi : i ≤ xs.length) : tyStr.Sl w (xs.drop i) (.slice (some ⟨b, o + i, none⟩) (n - i) (c - i)) := by
  have hn : n = xs.length := by
    rcases h.2 with ⟨e, _, _, hv, _⟩ | ⟨_, _, _, _, hv, _⟩
    · injection hv with _ e2; rw [e2, e]; rfl
    · injection hv
  have hl : (xs.drop i).length = n - i := by simp; omega
  refine ⟨by have := h.1; omega, ?_⟩
  rcases Nat.eq_zero_or_pos (n - i) with h0 | h0
  · exact .inl ⟨List.eq_nil_of_length_eq_zero (by omega), _, c - i, by rw [h0], fun e => by cases e⟩
  · obtain ⟨b', o', e, ha⟩ := Ty.Sl_at h 0 (by omega)
    injection e with e
    injection e with e1 e2
    subst e1; subst e2
    refine .inr ⟨by omega, b, o + i, c - i, by rw [hl], ?_, fun k y hk => ?_⟩
    · rcases h.2 with ⟨e, _⟩ | ⟨_, b', o', c', hv, hc, _⟩
      · rw [e] at hn; simp at hn; omega
      · injection hv with _ e2 e3; subst e3; omega
    · rw [List.getElem?_drop] at hk
      obtain ⟨cs, h1, h2⟩ := ha (i + k) y hk
      refine ⟨cs, h1, fun j u hu => ?_⟩
      have := h2 j u hu
      have e : o + i + k * tyStr.sz + j = o + (i + k) * tyStr.sz + j := by simp only [tyStr, Ty.flat]; omega
      rw [e]
      exact this
theorem sl_dropO {w : World} {xs : List ByteArray} {b n c i oD : Nat} (h : tyStr.Sl w xs (.slice (some ⟨b, 0, none⟩) n c)) (hi : i ≤ xs.length) (ho : (c = i ∧ oD = 0) ∨ (¬ c = i ∧ oD = i)) : tyStr.Sl w (xs.drop i) (.slice (some ⟨b, oD, none⟩) (n - i) (c - i)) := by
  rcases ho with ⟨e, rfl⟩ | ⟨_, rfl⟩
  · have hn : n = xs.length ∧ n ≤ c := by
      rcases h.2 with ⟨e, _, _, hv, _⟩ | ⟨_, _, _, _, hv, hc, _⟩
      · injection hv with _ e2; rw [e] at hi ⊢; simp at hi ⊢; omega
      · injection hv with _ e2 e3; subst e3; omega
    refine ⟨by have := h.1; simp; omega, .inl ⟨List.eq_nil_of_length_eq_zero (by simp; omega), _, c - i, by rw [show n - i = 0 by omega], fun e => by cases e⟩⟩
  · have := sl_drop h hi
    rwa [Nat.zero_add] at this
theorem lines_1000 {x : Ssn} {w : World} {v0 v1 v2 v3 v4 v5 v6 v7 v8 v9 v10 : Value} (m : SsnAt w x v0 v1 v2 v3 v4 v5 v6 v7 v8 v9 v10) (hf : fitB1 x = true) (hp : proper x = true) : (linesB x).length ≤ 1000 := by
  have e1 := lns_text x (lns_ok hp (ssn_fit m hf).1).2.2.2.2
  have e2 := wts_len (lns x)
  have e3 := (lns_ok hp (ssn_fit m hf).1).2.1
  rw [← e1, List.length_map]
  omega
theorem ends_app (e : List UInt8) (a b : List (List UInt8)) : joinEnds e (a ++ b) = joinEnds e a ++ joinEnds e b := by simp [joinEnds]
/-- The text of a proper session with an unknown line among its own is none. -/
theorem uk_read {x : Ssn} {w3 : World} {v0 v1 v2 v3 v4 v5 v6 v7 v8 v9 v10 : Value} (m : SsnAt w3 x v0 v1 v2 v3 v4 v5 v6 v7 v8 v9 v10) (hf : fitB1 x = true) (hp : proper x = true) (i : Nat) (kd : UInt8) (h1 : 65 ≤ kd.toNat) (h2 : kd.toNat ≤ 90) (a : Addr) (hE : Eof w3 a) :
    ∃ tx : ByteArray, (∀ (W : World) (B : Nat) (v : Value), RowS W B v ((linesB x).take i ++ [[kd, 61, 120]] ++ (linesB x).drop i) → Calls Tryz.prog 14 #[v, .string ⟨#[13, 10]⟩] W fun e w' => e = .returned (.string tx) ∧ w' = W) ∧
      ∀ W, Nw w3 W → Calls Tryz.prog 13 #[.string tx] W fun ed w' => Nw W w' ∧ ∃ cs : Array Value, ed = .returned (.tuple #[.agg cs, .bool false]) ∧ cs.size = 19 ∧ cs.all (·.oneCell') = true := by
  have LB := lns_bound m hf hp
  have hj := join_fit m hf hp [13, 10] (by decide)
  have hs : (linesB x).take i ++ (linesB x).drop i = linesB x := List.take_append_drop i _
  have ht : joinEnds [13, 10] ((linesB x).take i ++ [[kd, 61, 120]] ++ (linesB x).drop i) = joinEnds [13, 10] ((linesB x).take i) ++ (kd :: 61 :: 120 :: 13 :: 10 :: joinEnds [13, 10] ((linesB x).drop i)) := by
    rw [ends_app, ends_app, List.append_assoc]
    rfl
  have hl : (joinEnds [13, 10] ((linesB x).take i) ++ (kd :: 61 :: 120 :: 13 :: 10 :: joinEnds [13, 10] ((linesB x).drop i))).length ≤ strMax := by
    rw [← hs, ends_app, List.length_append] at hj
    simp only [List.length_append, List.length_cons]
    unfold strMax
    omega
  have L2 : Lns ((linesB x).take i ++ [[kd, 61, 120]] ++ (linesB x).drop i) := by
    have h3 : (linesB x).length ≤ 1000 := by
      have e1 := lns_text x (lns_ok hp (ssn_fit m hf).1).2.2.2.2
      have e2 := wts_len (lns x)
      have e3 := (lns_ok hp (ssn_fit m hf).1).2.1
      rw [← e1, List.length_map]
      omega
    refine ⟨?_, fun l hl => ?_⟩
    · simp only [List.length_append, List.length_take, List.length_drop, List.length_singleton]
      omega
    · simp only [List.mem_append, List.mem_singleton] at hl
      rcases hl with (hl | rfl) | hl
      · exact LB.all l (List.mem_of_mem_take hl)
      · unfold strMax; change 3 ≤ 1152921504606846976; omega
      · exact LB.all l (List.mem_of_mem_drop hl)
  refine ⟨mk (joinEnds [13, 10] ((linesB x).take i) ++ (kd :: 61 :: 120 :: 13 :: 10 :: joinEnds [13, 10] ((linesB x).drop i))), fun W B v hr => ?_, fun W hW => ?_⟩
  · have := spec_Text _ v ⟨#[13, 10]⟩ W (RowS.sl hr L2) (by decide) (by
      change (joinEnds [13, 10] _).length ≤ strMax
      rw [ht]
      exact hl)
    refine this.mono ?_
    rintro e w' ⟨rfl, rfl⟩
    refine ⟨?_, rfl⟩
    rw [← ht]
  · exact unm_cut m hf hp i W [13, 10] _ a hl (hE.nw hW) (.inl rfl) (.inr ⟨kd, _, rfl, h1, h2⟩) (by simp)
theorem lines_pos (x : Ssn) : 0 < (linesB x).length := by
  unfold linesB sessLs headLs
  simp only [List.length_append, List.length_cons]
  omega
attribute [local go_sem ↓] Go.wp_at_zero Go.wp_at_succ wp_store43 wp_store33 wp_load33 wp_load43
attribute [local go_sem] storeOk_row loadOk_row rowOf_drew rowIs_made rowIs_drew oneC_int oneC_string oneC_slice blockOf_ptr cellsOf_agg

set_option maxRecDepth 100000 in
set_option maxHeartbeats 4000000 in
theorem law_unknown (x : Ssn) (e : Int) (kd : UInt8) (a : Addr) (w : World) (v0 v1 v2 v3 v4 v5 v6 v7 v8 v9 v10 : Value) (m : SsnAt w x v0 v1 v2 v3 v4 v5 v6 v7 v8 v9 v10) (hE : Eof w a) (he : WfInt .i64 e) (hbk : Lns (linesB x) ∧ ConSz x.conn ∧ ∀ y ∈ x.media, ConSz y.conn) :
    Calls Tryz.prog 3 #[ssnVal x v0 v1 v2 v3 v4 v5 v6 v7 v8 v9 v10, .int .i64 e, .int .u8 (kd.toNat : Int)] w fun r w' => r = .returned (.bool true) ∧ Nw w w' := by
  have HBK := Lib.hid hbk
  clear hbk
  obtain ⟨kn, hkn⟩ : ∃ n : Nat, n = kd.toNat := ⟨_, rfl⟩
  rw [← hkn]
  have HKN := Lib.hid hkn
  clear hkn
  unfold ssnVal
  obtain ⟨A0, n0, rfl⟩ := Ty.Sl_form m.info
  obtain ⟨A1, n1, rfl⟩ := Ty.Sl_form m.uri
  obtain ⟨A2, n2, rfl⟩ := Ty.Sl_form m.email
  obtain ⟨A3, n3, rfl⟩ := Ty.Sl_form m.phone
  obtain ⟨A4, n4, rfl⟩ := Ty.Sl_form m.conn
  obtain ⟨A5, n5, rfl⟩ := Ty.Sl_form m.bws
  obtain ⟨A6, n6, rfl⟩ := Ty.Sl_form m.times
  obtain ⟨A7, n7, rfl⟩ := Ty.Sl_form m.zones
  obtain ⟨A8, n8, rfl⟩ := Ty.Sl_form m.key
  obtain ⟨A9, n9, rfl⟩ := Ty.Sl_form m.atts
  obtain ⟨A10, n10, rfl⟩ := Ty.Sl_form m.media
  have M := Lib.hid m
  obtain ⟨wA, hwA⟩ : ∃ wA, wA = w.alloc (.cells #[.int .i64 x.ver, .string x.org.user, .int .u64 x.org.id, .int .u64 x.org.ver, .string x.org.net, .string x.org.addr, .string x.org.adr, .string x.name, .slice A0 x.info.length n0, .slice A1 x.uri.length n1, .slice A2 x.email.length n2, .slice A3 x.phone.length n3, .slice A4 x.conn.length n4, .slice A5 x.bws.length n5, .slice A6 x.times.length n6, .slice A7 x.zones.length n7, .slice A8 x.key.length n8, .slice A9 x.atts.length n9, .slice A10 x.media.length n10] 33) := ⟨_, rfl⟩
  have qA : Nw w wA := by rw [hwA]; exact (Nw.refl w).alloc _
  have HX : Blk wA w.heap.size [.int .i64 x.ver, .string x.org.user, .int .u64 x.org.id, .int .u64 x.org.ver, .string x.org.net, .string x.org.addr, .string x.org.adr, .string x.name, .slice A0 x.info.length n0, .slice A1 x.uri.length n1, .slice A2 x.email.length n2, .slice A3 x.phone.length n3, .slice A4 x.conn.length n4, .slice A5 x.bws.length n5, .slice A6 x.times.length n6, .slice A7 x.zones.length n7, .slice A8 x.key.length n8, .slice A9 x.atts.length n9, .slice A10 x.media.length n10] 33 := by rw [hwA]; exact Blk.made w _ 33
  have MA := Lib.hid (m.loc (Nw.block qA))
  clear m
  go_enter Tryz.func3, Tryz.ntmps3
  go_upto_region 1 with fail
  rw [← hwA]
  have HF := Lib.hid (fun w1 (q : Nw wA w1) => zz1 x _ _ _ _ _ _ _ _ _ _ _ w1 (SsnAt.loc (Nw.block q) MA.out))
  unfold ssnVal at HF
  obtain ⟨bx, hbx⟩ : ∃ g, g = w.heap.size := ⟨_, rfl⟩
  rw [← hbx] at HX ⊢
  clear hbx hwA
  apply wp_region_lit
  refine wpList_load_row rfl 33 (.tmp 3) rfl bx rfl 33 _ (0, 0) _ HX Tryz.underlying33 rfl (by kernel_rfl) ?_
  cases hf : fitB1 x
  · rw [hf] at HF
    clear hf
    go_wp2_with (go_at_call 8; (with_reducible refine (HF.out _ (Nw.refl _)).mono ?_); rintro r w1 ⟨rfl, hn1⟩)
    go_ret
    exact ⟨rfl, qA.trans hn1⟩
  rw [hf] at HF
  have HT := Lib.hid hf
  clear hf
  go_upto_region 3 with (go_at_call 8; (with_reducible refine (HF.out _ (Nw.refl _)).mono ?_); rintro r w1 ⟨rfl, hn1⟩)
  have hp1 : Nw wA w1 := hn1
  have HSs := Lib.hid (law_session x w1 _ _ _ _ _ _ _ _ _ _ _ (SsnAt.loc (Nw.block hp1) MA.out) (ssn_sizes HT.out).2.2.2.1 (ssn_sizes HT.out).2.2.2.2.1 (ssn_sizes HT.out).2.2.2.2.2.1 (ssn_sizes HT.out).2.2.2.2.2.2)
  unfold ssnVal at HSs
  apply wp_region_lit
  refine wpList_load_row rfl 33 (.tmp 3) rfl bx rfl 33 _ (0, 0) _ (HX.nw hp1) Tryz.underlying33 rfl (by kernel_rfl) ?_
  go_upto_region 4 with (go_at_call 9; (with_reducible refine HSs.out.mono ?_); rintro r w2 ⟨v, rfl, ⟨t0, t1, t2, t3, t4, t5, t6, t7, t8, t9, t10, rfl, mt⟩, hn2⟩; unfold ssnVal; obtain ⟨B0, b0, rfl⟩ := Ty.Sl_form mt.info; obtain ⟨B1, b1, rfl⟩ := Ty.Sl_form mt.uri; obtain ⟨B2, b2, rfl⟩ := Ty.Sl_form mt.email; obtain ⟨B3, b3, rfl⟩ := Ty.Sl_form mt.phone; obtain ⟨B4, b4, rfl⟩ := Ty.Sl_form mt.conn; obtain ⟨B5, b5, rfl⟩ := Ty.Sl_form mt.bws; obtain ⟨B6, b6, rfl⟩ := Ty.Sl_form mt.times; obtain ⟨B7, b7, rfl⟩ := Ty.Sl_form mt.zones; obtain ⟨B8, b8, rfl⟩ := Ty.Sl_form mt.key; obtain ⟨B9, b9, rfl⟩ := Ty.Sl_form mt.atts; obtain ⟨B10, b10, rfl⟩ := Ty.Sl_form mt.media)
  obtain ⟨sx, hsx⟩ : ∃ g, g = w2.heap.size := ⟨_, rfl⟩
  obtain ⟨w3, hw3⟩ : ∃ w3, w3 = (w2.alloc (.cells #[.int .i64 0, .string ⟨#[]⟩, .int .u64 0, .int .u64 0, .string ⟨#[]⟩, .string ⟨#[]⟩, .string ⟨#[]⟩, .string ⟨#[]⟩, .slice none 0 0, .slice none 0 0, .slice none 0 0, .slice none 0 0, .slice none 0 0, .slice none 0 0, .slice none 0 0, .slice none 0 0, .slice none 0 0, .slice none 0 0, .slice none 0 0] 43)).setRow sx #[.int .i64 x.ver, .string x.org.user, .int .u64 x.org.id, .int .u64 x.org.ver, .string x.org.net, .string x.org.addr, .string x.org.adr, .string x.name, .slice B0 x.info.length b0, .slice B1 x.uri.length b1, .slice B2 x.email.length b2, .slice B3 x.phone.length b3, .slice B4 x.conn.length b4, .slice B5 x.bws.length b5, .slice B6 x.times.length b6, .slice B7 x.zones.length b7, .slice B8 x.key.length b8, .slice B9 x.atts.length b9, .slice B10 x.media.length b10] := ⟨_, rfl⟩
  have HY : Blk w3 sx [.int .i64 x.ver, .string x.org.user, .int .u64 x.org.id, .int .u64 x.org.ver, .string x.org.net, .string x.org.addr, .string x.org.adr, .string x.name, .slice B0 x.info.length b0, .slice B1 x.uri.length b1, .slice B2 x.email.length b2, .slice B3 x.phone.length b3, .slice B4 x.conn.length b4, .slice B5 x.bws.length b5, .slice B6 x.times.length b6, .slice B7 x.zones.length b7, .slice B8 x.key.length b8, .slice B9 x.atts.length b9, .slice B10 x.media.length b10] 43 := by rw [hw3, hsx]; exact blk_setRow (l2 := [.int .i64 x.ver, .string x.org.user, .int .u64 x.org.id, .int .u64 x.org.ver, .string x.org.net, .string x.org.addr, .string x.org.adr, .string x.name, .slice B0 x.info.length b0, .slice B1 x.uri.length b1, .slice B2 x.email.length b2, .slice B3 x.phone.length b3, .slice B4 x.conn.length b4, .slice B5 x.bws.length b5, .slice B6 x.times.length b6, .slice B7 x.zones.length b7, .slice B8 x.key.length b8, .slice B9 x.atts.length b9, .slice B10 x.media.length b10]) (Blk.made w2 [.int .i64 0, .string ⟨#[]⟩, .int .u64 0, .int .u64 0, .string ⟨#[]⟩, .string ⟨#[]⟩, .string ⟨#[]⟩, .string ⟨#[]⟩, .slice none 0 0, .slice none 0 0, .slice none 0 0, .slice none 0 0, .slice none 0 0, .slice none 0 0, .slice none 0 0, .slice none 0 0, .slice none 0 0, .slice none 0 0, .slice none 0 0] 43)
  have q23 : Nw w2 w3 := by rw [hw3]; exact ((Nw.refl w2).alloc _).setRow (by omega) _
  rw [← hsx, ← hw3]
  clear hw3 hsx
  have hp3 : Nw wA w3 := (hp1.trans hn2).trans q23
  have MB := Lib.hid (SsnAt.loc (Nw.block q23) mt)
  clear mt
  have HL := Lib.hid (fun w4 (q : Nw w3 w4) => spec_Lines x _ _ _ _ _ _ _ _ _ _ _ w4 (SsnAt.loc (Nw.block q) MB.out) HBK.out.1 HBK.out.2.1 HBK.out.2.2 (by have := (ssn_sizes HT.out).2.2.1; omega))
  have HP := Lib.hid (fun w4 (q : Nw w3 w4) => spec_Proper x _ _ _ _ _ _ _ _ _ _ _ w4 (SsnAt.loc (Nw.block q) MB.out))
  unfold ssnVal at HP HL
  have HW := Lib.hid (fun w4 (q : Nw w w4) => law_works w4 a (hE.nw q))
  have HHE := Lib.hid he
  clear he hn1 hn2 q23 HF HSs
  obtain ⟨nL, hnL⟩ : ∃ n : Nat, n = (linesB x).length := ⟨_, rfl⟩
  have HNL := Lib.hid hnL
  clear hnL
  apply wp_region_lit
  refine wpList_load_row rfl 43 (.tmp 7) rfl sx rfl 43 _ (0, 0) _ HY Tryz.underlying43 rfl (by kernel_rfl) ?_
  go_upto_region 5 with (go_at_call 10; (with_reducible refine (HL.out _ (Nw.refl _)).mono ?_); rintro r w4 ⟨vL, rfl, hrL, hn4⟩; obtain ⟨DL, eL, hvL, hce⟩ := hrL.form; rw [← HNL.out] at hvL hce; subst hvL)
  have R4 := rowIs_blk (n := 19) (HY.nw hn4) rfl
  have O4 := rowOf_blk (HY.nw hn4)
  have HRL := Lib.hid hrL
  clear hrL
  cases hp : proper x
  · rw [hp] at HP
    clear hp
    as_aux_lemma =>
      go_wp2_with (first | (go_at_call 11; (with_reducible refine (HP.out _ hn4).mono ?_); rintro r w5 ⟨rfl, hn5⟩) | (go_at_call 12; (with_reducible refine (HW.out _ ((qA.trans hp3).trans (hn4.trans hn5))).mono ?_); rintro r w6 ⟨rfl, hn6⟩))
      go_ret
      exact ⟨rfl, ((qA.trans hp3).trans (hn4.trans hn5)).trans hn6⟩
  rw [hp] at HP
  have HR := Lib.hid hp
  clear hp
  by_cases h0 : e < 0
  · as_aux_lemma =>
      go_wp2_with (first | (go_at_call 11; (with_reducible refine (HP.out _ hn4).mono ?_); rintro r w5 ⟨rfl, hn5⟩) | (go_at_call 12; (with_reducible refine (HW.out _ ((qA.trans hp3).trans (hn4.trans hn5))).mono ?_); rintro r w6 ⟨rfl, hn6⟩))
      go_ret
      exact ⟨rfl, ((qA.trans hp3).trans (hn4.trans hn5)).trans hn6⟩
  by_cases h1 : (nL : Int) < e
  · as_aux_lemma =>
      go_wp2_with (first | (go_at_call 11; (with_reducible refine (HP.out _ hn4).mono ?_); rintro r w5 ⟨rfl, hn5⟩) | (go_at_call 12; (with_reducible refine (HW.out _ ((qA.trans hp3).trans (hn4.trans hn5))).mono ?_); rintro r w6 ⟨rfl, hn6⟩))
      go_ret
      exact ⟨rfl, ((qA.trans hp3).trans (hn4.trans hn5)).trans hn6⟩
  by_cases h2 : (kn : Int) < 65
  · as_aux_lemma =>
      go_wp2_with (first | (go_at_call 11; (with_reducible refine (HP.out _ hn4).mono ?_); rintro r w5 ⟨rfl, hn5⟩) | (go_at_call 12; (with_reducible refine (HW.out _ ((qA.trans hp3).trans (hn4.trans hn5))).mono ?_); rintro r w6 ⟨rfl, hn6⟩))
      go_ret
      exact ⟨rfl, ((qA.trans hp3).trans (hn4.trans hn5)).trans hn6⟩
  by_cases h3 : (90 : Int) < (kn : Int)
  · as_aux_lemma =>
      go_wp2_with (first | (go_at_call 11; (with_reducible refine (HP.out _ hn4).mono ?_); rintro r w5 ⟨rfl, hn5⟩) | (go_at_call 12; (with_reducible refine (HW.out _ ((qA.trans hp3).trans (hn4.trans hn5))).mono ?_); rintro r w6 ⟨rfl, hn6⟩))
      go_ret
      exact ⟨rfl, ((qA.trans hp3).trans (hn4.trans hn5)).trans hn6⟩
  obtain ⟨i, rfl, hi⟩ : ∃ i : Nat, e = (i : Int) ∧ i ≤ nL := ⟨e.toNat, by omega, by omega⟩
  have hk1 : 65 ≤ kn := by omega
  have hk2 : kn ≤ 90 := by omega
  go_upto_region 7 with (go_at_call 11; (with_reducible refine (HP.out _ hn4).mono ?_); rintro r w5 ⟨rfl, hn5⟩)
  have hq5 : Nw w3 w5 := hn4.trans hn5
  clear R4 O4 HL HP
  obtain ⟨bL, rfl, hce2⟩ := rowS_some HRL.out (lines_pos x)
  have hL1000 : (linesB x).length ≤ 1000 := lines_1000 MB.out HT.out HR.out
  have i1 : (0 : Int) ≤ (i : Int) := by omega
  have i2 : (i : Int) ≤ (nL : Int) := by omega
  have i3 : (i : Int) ≤ (eL : Int) := by omega
  have i4 : ¬ (eL : Int) < (i : Int) := by omega
  have i5 : ¬ (nL : Int) < (i : Int) := by omega
  have i6 : (nL : Int) ≤ (eL : Int) := by omega
  have HEN := Lib.hid (enc_kd hk1 hk2 HKN.out)
  have i7 : ¬ 9223372036854775807 < (Utf8.encode (kn : Int)).size + 2 := by
    rw [HEN.out]
    change ¬ 9223372036854775807 < 1 + 2
    omega
  have i8 : ¬ (9223372036854775807 : Int) < ((Utf8.encode (kn : Int)).size : Int) + 2 := by omega
  have HKS : Hid (Utf8.encode (kn : Int) ++ ⟨#[61, 120]⟩ = mk [kd, 61, 120]) := Lib.hid (by rw [HEN.out]; rfl)
  have HKL : Hid (([kd, 61, 120] : List UInt8).length ≤ strMax) := Lib.hid (by unfold strMax; change 3 ≤ 1152921504606846976; omega)
  obtain ⟨tx, hx14, hx13⟩ := uk_read MB.out HT.out HR.out i kd (by rw [← HKN.out]; exact hk1) (by rw [← HKN.out]; exact hk2) a (hE.nw (qA.trans hp3))
  have HX14 := Lib.hid hx14
  have HX13 := Lib.hid hx13
  clear hx14 hx13
  go_cut [8] from 11 to 53 (fun v8 wc => ∃ Bz, RowS wc Bz v8 ([] ++ (linesB x).take i ++ [[kd, 61, 120]] ++ (linesB x).drop i) ∧ Nw w3 wc)
  case first =>
    refine wp_region_Z 14 (fun _ => True) (by kernel_rfl) trivial (fun hHeld => ?_)
    obtain ⟨z0, hz0'⟩ : ∃ z, z = w5.drew := ⟨_, rfl⟩
    have hq0 : Nw w3 z0 := by rw [hz0']; exact hq5.drew
    have HS0 : Hid (tyStr.Sl z0 ((linesB x).map mk) (.slice (some ⟨bL, 0, none⟩) nL eL)) := Lib.hid (by rw [hz0']; exact RowS.sl (HRL.out.nw hn5.drew) HBK.out.1)
    have hz0 := Nw.refl z0
    obtain ⟨oD, HOD⟩ : ∃ oD, Hid ((eL = i ∧ oD = 0) ∨ (¬ eL = i ∧ oD = i)) := by
      by_cases h : eL = i
      · exact ⟨0, Lib.hid (.inl ⟨h, rfl⟩)⟩
      · exact ⟨i, Lib.hid (.inr ⟨h, rfl⟩)⟩
    rw [← hz0']
    clear hz0'
    have HST : Hid (∀ z, Nw z0 z → tyStr.Sl z (((linesB x).take i).map mk) (.slice (some ⟨bL, 0, none⟩) i eL)) := Lib.hid (fun z hz => by rw [List.map_take]; exact sl_take (Ty.Sl_loc (Nw.block hz) HS0.out) (by rw [List.length_map, ← HNL.out]; exact hi))
    have HSD : Hid (∀ z, Nw z0 z → tyStr.Sl z (((linesB x).drop i).map mk) (.slice (some ⟨bL, oD, none⟩) (nL - i) (eL - i))) := Lib.hid (fun z hz => by rw [List.map_drop]; exact sl_dropO (Ty.Sl_loc (Nw.block hz) HS0.out) (by rw [List.length_map, ← HNL.out]; exact hi) HOD.out)
    refine' tkZ 1 [14] (oi := ?o101) (v := ?v101) ?h101 (by kernel_rfl) ?q101 (Or.inl ⟨?w101, ?y101⟩) hHeld ?r101
    case h101 => rfl
    case q101 => exact fun _ _ _ h => h
    case w101 => rfl
    case y101 => (intro w hSw; go_simp; first | done | (with_reducible rfl))
    try simp only [Act.put, List.setIfInBounds_toArray, List.set_cons_zero, List.set_cons_succ]
    refine' tkZ 2 [14] (oi := ?o102) (v := ?v102) ?h102 (by kernel_rfl) ?q102 (Or.inl ⟨?w102, ?y102⟩) hHeld ?r102
    case h102 => rfl
    case q102 => exact fun _ _ _ h => h
    case w102 => rfl
    case y102 => (intro w hSw; go_simp; first | done | (with_reducible rfl))
    try simp only [Act.put, List.setIfInBounds_toArray, List.set_cons_zero, List.set_cons_succ]
    refine' tkZ 3 [14] (oi := ?o103) (v := ?v103) ?h103 (by kernel_rfl) ?q103 (Or.inl ⟨?w103, ?y103⟩) hHeld ?r103
    case h103 => rfl
    case q103 => exact fun _ _ _ h => h
    case w103 => rfl
    case y103 => (intro w hSw; go_simp; first | done | (with_reducible rfl))
    try simp only [Act.put, List.setIfInBounds_toArray, List.set_cons_zero, List.set_cons_succ]
    refine' tkZ 5 [14] (oi := ?o104) (v := ?v104) ?h104 (by kernel_rfl) ?q104 (Or.inl ⟨?w104, ?y104⟩) hHeld ?r104
    case h104 => rfl
    case q104 => exact fun _ _ _ h => h
    case w104 => rfl
    case y104 => (intro w hSw; go_simp; first | done | (with_reducible rfl))
    try simp only [Act.put, List.setIfInBounds_toArray, List.set_cons_zero, List.set_cons_succ]
    refine' tkZ 6 [14] (oi := ?o105) (v := ?v105) ?h105 (by kernel_rfl) ?q105 (Or.inl ⟨?w105, ?y105⟩) hHeld ?r105
    case h105 => rfl
    case q105 => exact fun _ _ _ h => h
    case w105 => rfl
    case y105 => (intro w hSw; go_simp; first | done | (with_reducible rfl))
    try simp only [Act.put, List.setIfInBounds_toArray, List.set_cons_zero, List.set_cons_succ]
    refine' tkZ 7 [14] (oi := ?o106) (v := ?v106) ?h106 (by kernel_rfl) ?q106 (Or.inl ⟨?w106, ?y106⟩) hHeld ?r106
    case h106 => rfl
    case q106 => exact fun _ _ _ h => h
    case w106 => rfl
    case y106 => (intro w hSw; go_simp; first | done | (with_reducible rfl))
    try simp only [Act.put, List.setIfInBounds_toArray, List.set_cons_zero, List.set_cons_succ]
    refine' tkZ 10 [14] (oi := ?o107) (v := ?v107) ?h107 (by kernel_rfl) ?q107 (Or.inl ⟨?w107, ?y107⟩) hHeld ?r107
    case h107 => rfl
    case q107 => exact fun _ _ _ h => h
    case w107 => rfl
    case y107 => (intro w hSw; go_simp; first | done | (with_reducible rfl))
    try simp only [Act.put, List.setIfInBounds_toArray, List.set_cons_zero, List.set_cons_succ]
    refine' tkZ 11 [14] (oi := ?o108) (v := ?v108) ?h108 (by kernel_rfl) ?q108 (Or.inl ⟨?w108, ?y108⟩) hHeld ?r108
    case h108 => rfl
    case q108 => exact fun _ _ _ h => h
    case w108 => rfl
    case y108 => (intro w hSw; go_simp; first | done | (with_reducible rfl))
    try simp only [Act.put, List.setIfInBounds_toArray, List.set_cons_zero, List.set_cons_succ]
    refine' tkZ 12 [14] (oi := ?o109) (v := .slice (some ⟨bL, oD, none⟩) (nL - i) (eL - i)) ?h109 (by kernel_rfl) ?q109 (Or.inl ⟨?w109, ?y109⟩) hHeld ?r109
    case h109 => rfl
    case q109 => exact fun _ _ _ h => h
    case w109 => rfl
    case y109 => (intro w hSw; rcases HOD.out with ⟨h9, rfl⟩ | ⟨h9, rfl⟩ <;> go_simp; first | done | (with_reducible rfl))
    try simp only [Act.put, List.setIfInBounds_toArray, List.set_cons_zero, List.set_cons_succ]
    refine' stZ2 0 8 (by kernel_rfl) rfl rfl (by decide) (fun K hK => ?_) (fun K hK => ?_)
    · go_simp
      obtain ⟨gE, z1, hE0, hs1, hge, e1, e2⟩ := new_blk z0 [] 9
      rw [← e1, ← e2]
      clear e1 e2
      have hz1 := hz0.trans hs1
      have hrow := rowS_empty hE0 (Nat.le_trans hz0.size hge)
      refine hK.out _ _ ?_ (fun hHeld => ?_)
      · trivial
      clear hK K
      try simp only [Act.put, List.setIfInBounds_toArray, List.set_cons_zero, List.set_cons_succ]
      refine' stZ2 4 8 (by kernel_rfl) rfl rfl (by decide) (fun K hK => ?_) (fun K hK => ?_)
      · (refine at_step rfl ?_; (with_reducible refine rowS_appends (ops := #[]) (.tmp 40) (.tmp 43) ?_ _ _ _ ((linesB x).take i) ?_ ?_ (HST.out _ hz1) hrow hz1 ?_ ?_); (focus rfl); (focus rfl); (focus rfl); (focus (simp only [List.length_nil, List.length_take]; omega)); intro v2 z2 hrow hz2 hf2 ho2)
        obtain ⟨A2, l2, c2, rfl⟩ := rowS_form3 hrow
        refine hK.out _ _ ?_ (fun hHeld => ?_)
        · trivial
        clear hK K
        try simp only [Act.put, List.setIfInBounds_toArray, List.set_cons_zero, List.set_cons_succ]
        refine' stZ1 8 (by kernel_rfl) rfl (by decide) (fun K hK => ?_)
        go_simp
        obtain ⟨gK, z3, hK0, hs3, hgk, e1, e2⟩ := new_blk z2 [.string (Utf8.encode (kn : Int) ++ ⟨#[61, 120]⟩)] 9
        rw [← e1, ← e2]
        clear e1 e2
        have hz3 := hz2.trans hs3
        have hrow := hrow.nw hs3
        refine hK.out _ _ ?_ (fun hHeld => ?_)
        · trivial
        clear hK K
        try simp only [Act.put, List.setIfInBounds_toArray, List.set_cons_zero, List.set_cons_succ]
        have cK := hK0.cell 0 rfl
        refine' stZ1 9 (by kernel_rfl) rfl (by decide) (fun K hK => ?_)
        (refine at_step rfl ?_; (with_reducible refine rowS_appendC (ops := #[]) (.tmp 44) (.tmp 48) ?_ _ _ _ [kd, 61, 120] HKS HKL ?_ gK ?_ cK hrow hz3 ?_ ?_); (focus rfl); (focus rfl); (focus rfl); (focus (simp only [List.length_append, List.length_nil, List.length_take]; omega)); intro v4 z4 hrow hz4 hf4 ho4)
        obtain ⟨A4, l4, c4, rfl⟩ := rowS_form3 hrow
        refine hK.out _ _ ?_ (fun hHeld => ?_)
        · trivial
        clear hK K
        try simp only [Act.put, List.setIfInBounds_toArray, List.set_cons_zero, List.set_cons_succ]
        refine' stZ1 13 (by kernel_rfl) rfl (by decide) (fun K hK => ?_)
        (refine at_step rfl ?_; (with_reducible refine rowS_appends (ops := #[]) (.tmp 49) (.tmp 52) ?_ _ _ _ ((linesB x).drop i) ?_ ?_ (HSD.out _ hz4) hrow hz4 ?_ ?_); (focus rfl); (focus rfl); (focus rfl); (focus (simp only [List.length_append, List.length_nil, List.length_take, List.length_drop, List.length_singleton]; omega)); intro v5 z5 hrow hz5 hf5 ho5)
        obtain ⟨A5, l5, c5, rfl⟩ := rowS_form3 hrow
        refine hK.out _ _ ?_ (fun hHeld => ?_)
        · trivial
        clear hK K
        try simp only [Act.put, List.setIfInBounds_toArray, List.set_cons_zero, List.set_cons_succ]
        refine' stZ_last (by kernel_rfl) rfl (by kernel_rfl) (fun K hK => ?_)
        go_simp
        refine hK.out _ _ ?_
        clear hK K
        go_wp2
        go_meet
        case rel => exact ⟨z0.heap.size, hrow, hq0.trans hz5⟩
      go_simp
      obtain ⟨gK, z2, hK0, hs2, hgk, e1, e2⟩ := new_blk z1 [.string (Utf8.encode (kn : Int) ++ ⟨#[61, 120]⟩)] 9
      rw [← e1, ← e2]
      clear e1 e2
      have hz2 := hz1.trans hs2
      have hgK : ¬ gK = gE := fun e => by have := Blk.lt hE0; omega
      have hrow := rowS_empty (hE0.nw hs2) (Nat.le_trans hz0.size hge)
      refine hK.out _ _ ?_ (fun hHeld => ?_)
      · trivial
      clear hK K
      try simp only [Act.put, List.setIfInBounds_toArray, List.set_cons_zero, List.set_cons_succ]
      refine' stZ1 4 (by kernel_rfl) rfl (by decide) (fun K hK => ?_)
      (refine at_step rfl ?_; (with_reducible refine rowS_appends (ops := #[]) (.tmp 40) (.tmp 43) ?_ _ _ _ ((linesB x).take i) ?_ ?_ (HST.out _ hz2) hrow hz2 ?_ ?_); (focus rfl); (focus rfl); (focus rfl); (focus (simp only [List.length_nil, List.length_take]; omega)); intro v3 z3 hrow hz3 hf3 ho3)
      obtain ⟨A3, l3, c3, rfl⟩ := rowS_form3 hrow
      have hK0 := hK0.fr hf3 (fun e => by have e' : some gK = some gE := e; injection e' with e'; exact hgK e')
      refine hK.out _ _ ?_ (fun hHeld => ?_)
      · trivial
      clear hK K
      try simp only [Act.put, List.setIfInBounds_toArray, List.set_cons_zero, List.set_cons_succ]
      have cK := hK0.cell 0 rfl
      refine' stZ1 9 (by kernel_rfl) rfl (by decide) (fun K hK => ?_)
      (refine at_step rfl ?_; (with_reducible refine rowS_appendC (ops := #[]) (.tmp 44) (.tmp 48) ?_ _ _ _ [kd, 61, 120] HKS HKL ?_ gK ?_ cK hrow hz3 ?_ ?_); (focus rfl); (focus rfl); (focus rfl); (focus (simp only [List.length_append, List.length_nil, List.length_take]; omega)); intro v4 z4 hrow hz4 hf4 ho4)
      obtain ⟨A4, l4, c4, rfl⟩ := rowS_form3 hrow
      refine hK.out _ _ ?_ (fun hHeld => ?_)
      · trivial
      clear hK K
      try simp only [Act.put, List.setIfInBounds_toArray, List.set_cons_zero, List.set_cons_succ]
      refine' stZ1 13 (by kernel_rfl) rfl (by decide) (fun K hK => ?_)
      (refine at_step rfl ?_; (with_reducible refine rowS_appends (ops := #[]) (.tmp 49) (.tmp 52) ?_ _ _ _ ((linesB x).drop i) ?_ ?_ (HSD.out _ hz4) hrow hz4 ?_ ?_); (focus rfl); (focus rfl); (focus rfl); (focus (simp only [List.length_append, List.length_nil, List.length_take, List.length_drop, List.length_singleton]; omega)); intro v5 z5 hrow hz5 hf5 ho5)
      obtain ⟨A5, l5, c5, rfl⟩ := rowS_form3 hrow
      refine hK.out _ _ ?_ (fun hHeld => ?_)
      · trivial
      clear hK K
      try simp only [Act.put, List.setIfInBounds_toArray, List.set_cons_zero, List.set_cons_succ]
      refine' stZ_last (by kernel_rfl) rfl (by kernel_rfl) (fun K hK => ?_)
      go_simp
      refine hK.out _ _ ?_
      clear hK K
      go_wp2
      go_meet
      case rel => exact ⟨z0.heap.size, hrow, hq0.trans hz5⟩
    go_simp
    obtain ⟨gK, z1, hK0, hs1, hgk, e1, e2⟩ := new_blk z0 [.string (Utf8.encode (kn : Int) ++ ⟨#[61, 120]⟩)] 9
    rw [← e1, ← e2]
    clear e1 e2
    have hz1 := hz0.trans hs1
    refine hK.out _ _ ?_ (fun hHeld => ?_)
    · trivial
    clear hK K
    try simp only [Act.put, List.setIfInBounds_toArray, List.set_cons_zero, List.set_cons_succ]
    refine' stZ1 0 (by kernel_rfl) rfl (by decide) (fun K hK => ?_)
    go_simp
    obtain ⟨gE, z2, hE0, hs2, hge, e1, e2⟩ := new_blk z1 [] 9
    rw [← e1, ← e2]
    clear e1 e2
    have hz2 := hz1.trans hs2
    have hrow := rowS_empty hE0 (Nat.le_trans hz1.size hge)
    have hgK : ¬ gK = gE := fun e => by have := Blk.lt hK0; omega
    have hK0 := hK0.nw hs2
    refine hK.out _ _ ?_ (fun hHeld => ?_)
    · trivial
    clear hK K
    try simp only [Act.put, List.setIfInBounds_toArray, List.set_cons_zero, List.set_cons_succ]
    refine' stZ1 4 (by kernel_rfl) rfl (by decide) (fun K hK => ?_)
    (refine at_step rfl ?_; (with_reducible refine rowS_appends (ops := #[]) (.tmp 40) (.tmp 43) ?_ _ _ _ ((linesB x).take i) ?_ ?_ (HST.out _ hz2) hrow hz2 ?_ ?_); (focus rfl); (focus rfl); (focus rfl); (focus (simp only [List.length_nil, List.length_take]; omega)); intro v3 z3 hrow hz3 hf3 ho3)
    obtain ⟨A3, l3, c3, rfl⟩ := rowS_form3 hrow
    have hK0 := hK0.fr hf3 (fun e => by have e' : some gK = some gE := e; injection e' with e'; exact hgK e')
    refine hK.out _ _ ?_ (fun hHeld => ?_)
    · trivial
    clear hK K
    try simp only [Act.put, List.setIfInBounds_toArray, List.set_cons_zero, List.set_cons_succ]
    have cK := hK0.cell 0 rfl
    refine' stZ1 9 (by kernel_rfl) rfl (by decide) (fun K hK => ?_)
    (refine at_step rfl ?_; (with_reducible refine rowS_appendC (ops := #[]) (.tmp 44) (.tmp 48) ?_ _ _ _ [kd, 61, 120] HKS HKL ?_ gK ?_ cK hrow hz3 ?_ ?_); (focus rfl); (focus rfl); (focus rfl); (focus (simp only [List.length_append, List.length_nil, List.length_take]; omega)); intro v4 z4 hrow hz4 hf4 ho4)
    obtain ⟨A4, l4, c4, rfl⟩ := rowS_form3 hrow
    refine hK.out _ _ ?_ (fun hHeld => ?_)
    · trivial
    clear hK K
    try simp only [Act.put, List.setIfInBounds_toArray, List.set_cons_zero, List.set_cons_succ]
    refine' stZ1 13 (by kernel_rfl) rfl (by decide) (fun K hK => ?_)
    (refine at_step rfl ?_; (with_reducible refine rowS_appends (ops := #[]) (.tmp 49) (.tmp 52) ?_ _ _ _ ((linesB x).drop i) ?_ ?_ (HSD.out _ hz4) hrow hz4 ?_ ?_); (focus rfl); (focus rfl); (focus rfl); (focus (simp only [List.length_append, List.length_nil, List.length_take, List.length_drop, List.length_singleton]; omega)); intro v5 z5 hrow hz5 hf5 ho5)
    obtain ⟨A5, l5, c5, rfl⟩ := rowS_form3 hrow
    refine hK.out _ _ ?_ (fun hHeld => ?_)
    · trivial
    clear hK K
    try simp only [Act.put, List.setIfInBounds_toArray, List.set_cons_zero, List.set_cons_succ]
    refine' stZ_last (by kernel_rfl) rfl (by kernel_rfl) (fun K hK => ?_)
    go_simp
    refine hK.out _ _ ?_
    clear hK K
    go_wp2
    go_meet
    case rel => exact ⟨z0.heap.size, hrow, hq0.trans hz5⟩
  case rest =>
    obtain ⟨Bz, hrow, hqc⟩ := hcut
    rw [List.nil_append] at hrow
    obtain ⟨Af, lf, cf, rfl⟩ := rowS_form3 hrow
    have HROW := Lib.hid hrow
    clear hrow
    go_wp2_with (first
      | (go_at_call 14; (with_reducible refine (HX14.out _ _ _ HROW.out).mono ?_); rintro r w6 ⟨rfl, hww⟩; have hww := hww.symm; subst hww)
      | (go_at_call 13; (with_reducible refine (HX13.out _ hqc).mono ?_); rintro r w7 ⟨hn7, cs, rfl, hcs, hall⟩; have hst := storeOk_blk (Blk.made w7 [.int .i64 0, .string ⟨#[]⟩, .int .u64 0, .int .u64 0, .string ⟨#[]⟩, .string ⟨#[]⟩, .string ⟨#[]⟩, .string ⟨#[]⟩, .slice none 0 0, .slice none 0 0, .slice none 0 0, .slice none 0 0, .slice none 0 0, .slice none 0 0, .slice none 0 0, .slice none 0 0, .slice none 0 0, .slice none 0 0, .slice none 0 0] 33) rfl hcs hall; have q7 := (qA.trans hp3).trans (hqc.trans hn7); have q7s := q7.size; have q8 := Nw.setRow (q7.alloc (.cells #[.int .i64 0, .string ⟨#[]⟩, .int .u64 0, .int .u64 0, .string ⟨#[]⟩, .string ⟨#[]⟩, .string ⟨#[]⟩, .string ⟨#[]⟩, .slice none 0 0, .slice none 0 0, .slice none 0 0, .slice none 0 0, .slice none 0 0, .slice none 0 0, .slice none 0 0, .slice none 0 0, .slice none 0 0, .slice none 0 0, .slice none 0 0] 33)) q7s cs)
      | (go_at_call 12; (with_reducible refine (HW.out _ q8).mono ?_); rintro r w8 ⟨rfl, hn8⟩))
    go_ret
    exact ⟨rfl, q8.trans hn8⟩
end Go.Proofs.YtcepdjlknalmnaaGreatDoor

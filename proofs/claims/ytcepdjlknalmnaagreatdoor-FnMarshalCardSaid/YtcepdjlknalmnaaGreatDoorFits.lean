/- The bounds on what comes in (zzFits1 to zzFits17): what they answer. Written by a small program of this claim's own (genfits). -/
import Derived.Test.YtcepdjlknalmnaaGreatDoorBase
namespace Go.Proofs.YtcepdjlknalmnaaGreatDoor
open Go.RowKit
set_option linter.unusedSimpArgs false
set_option linter.unusedVariables false
theorem ret_bool {a b : Bool} (h : a = b) : Ending.returned (.bool a) = .returned (.bool b) := by rw [h]
def fStr (s : ByteArray) : Bool := decide (s.size ≤ 2147483647)
def fLen {α : Type} (xs : List α) : Bool := decide (xs.length ≤ 2147483647)
def fitB2 (x : Org) : Bool := fStr x.user && (fStr x.net && (fStr x.addr && fStr x.adr))
def fitB3 (xs : List ByteArray) : Bool := fLen xs && xs.all fStr
def fitB7 (x : Adr) : Bool := fStr x.addr && (fLen x.ttl && fLen x.rng)
def fitB6 (xs : List Adr) : Bool := fLen xs && xs.all fitB7
def fitB5 (x : Con) : Bool := fStr x.net && (fStr x.addr && fitB6 x.adrs)
def fitB4 (xs : List Con) : Bool := fLen xs && xs.all fitB5
def fitB9 (x : Bwd) : Bool := fStr x.ty
def fitB8 (xs : List Bwd) : Bool := fLen xs && xs.all fitB9
def fitB13 (x : Rep) : Bool := fLen x.offs
def fitB12 (xs : List Rep) : Bool := fLen xs && xs.all fitB13
def fitB11 (x : Tim) : Bool := fitB12 x.reps
def fitB10 (xs : List Tim) : Bool := fLen xs && xs.all fitB11
def fitB15 (x : Att) : Bool := fStr x.key && fStr x.val
def fitB14 (xs : List Att) : Bool := fLen xs && xs.all fitB15
def fitB17 (x : Med) : Bool := fStr x.name && (fLen x.ports && (fitB3 x.protos && (fitB3 x.fmts && (fitB3 x.title && (fitB4 x.conn && (fitB8 x.bws && (fitB3 x.key && fitB14 x.atts)))))))
def fitB16 (xs : List Med) : Bool := fLen xs && xs.all fitB17
def fitB1 (x : Ssn) : Bool := fitB2 x.org && (fStr x.name && (fitB3 x.info && (fitB3 x.uri && (fitB3 x.email && (fitB3 x.phone && (fitB4 x.conn && (fitB8 x.bws && (fitB10 x.times && (fLen x.zones && (fitB3 x.key && (fitB14 x.atts && fitB16 x.media)))))))))))
theorem take_all {α : Type} {xs : List α} {f : α → Bool} {k : Nat} (h : k < xs.length) (ha : (xs.take k).all f = true) : (xs.take (k + 1)).all f = f xs[k] := by
 rw [List.take_succ_eq_append_getElem h, List.all_append, ha]
 simp
theorem all_false {α : Type} {xs : List α} {f : α → Bool} {k : Nat} (h : k < xs.length) (hf : f xs[k] = false) : xs.all f = false := by
 rw [List.all_eq_false]
 exact ⟨_, List.getElem_mem h, by simp [hf]⟩
theorem zz2 (x : Org) (w : World) :
 Calls Tryz.prog 21 #[.agg #[.string x.user, .int .u64 x.id, .int .u64 x.ver, .string x.net, .string x.addr, .string x.adr]] w fun e w' => e = .returned (.bool (fitB2 x)) ∧ Nw w w' := by
 go_enter Tryz.func21, Tryz.ntmps21
 go_wp2
 all_goals go_ret
 all_goals exact ⟨ret_bool (by unfold fitB2; unfold fStr; simp; omega), (Nw.refl _).alloc _⟩
theorem zz3 (xs : List ByteArray) (v : Value) (w : World) (h : tyStr.Sl w xs v) :
 Calls Tryz.prog 22 #[v] w fun e w' => e = .returned (.bool (fitB3 xs)) ∧ Nw w w' := by
 obtain ⟨hm, h⟩ := h
 by_cases hl : (2147483647 : Int) < (xs.length : Int)
 · have HF : Hid (fitB3 xs = false) := Lib.hid (by unfold fitB3 fLen; simp; omega)
   rcases h with ⟨rfl, A, c, rfl, _⟩ | ⟨hp, b, o, c, rfl, hc, ha⟩
   · simp at hl
   · go_enter Tryz.func22, Tryz.ntmps22
     go_wp2
     go_ret
     exact ⟨ret_bool HF.out.symm, Nw.refl _⟩
 · have HF : Hid (fitB3 xs = xs.all fStr) := Lib.hid (by unfold fitB3 fLen; simp; omega)
   rcases h with ⟨rfl, A, c, rfl, _⟩ | ⟨hp, b, o, c, rfl, hc, ha⟩
   · go_enter Tryz.func22, Tryz.ntmps22
     go_wp2
     refine wp_loop_rounds 1 ?_
     rw [rounds_succ]
     go_wp2
     go_ret
     exact ⟨ret_bool rfl, Nw.refl _⟩
   · go_enter Tryz.func22, Tryz.ntmps22
     go_wp2
     go_loopw [10] (fun i wr => ∃ k : Nat, k ≤ xs.length ∧ i = .int .i64 k ∧ Hid ((xs.take k).all fStr = true) ∧ Nw w wr) (fun i _ => xs.length - (intOf i).toNat)
     case atStart => exact ⟨0, Nat.zero_le _, rfl, Lib.hid (by simp), Nw.refl _⟩
     case round =>
      obtain ⟨k, hk, rfl, hall, hnw⟩ := hrel
      by_cases hlt : k < xs.length
      · obtain ⟨cs, ⟨rfl, _⟩, hx⟩ := Ty.At_loc hnw.block ha k _ (List.getElem?_eq_getElem hlt)
        have c0 := hx 0 _ rfl
        simp only [tyStr, tyInt, Ty.flat, Nat.mul_one, Nat.add_zero] at c0
        have HT : Hid ((xs.take (k + 1)).all fStr = fStr xs[k]) := Lib.hid (take_all hlt hall.out)
        have HN : Hid (fStr xs[k] = false → xs.all fStr = false) := Lib.hid (all_false hlt)
        clear hx
        go_wp2
        · go_ret
          exact ⟨ret_bool (by rw [HF.out, HN.out (by unfold fStr; simp; omega)]), hnw⟩
        · exact ⟨⟨k + 1, by omega, by go_num, Lib.hid (by rw [HT.out]; unfold fStr; simp; omega), hnw⟩, by simp [intOf]; omega⟩
      · go_wp2
        go_ret
        exact ⟨ret_bool (by rw [HF.out, ← hall.out, List.take_of_length_le (by omega)]), hnw⟩
theorem zz7 (x : Adr) (v1 v2 : Value) (w : World) (h1 : tyI.Sl w x.ttl v1) (h2 : tyI.Sl w x.rng v2) :
 Calls Tryz.prog 139 #[.agg #[.string x.addr, v1, v2]] w fun e w' => e = .returned (.bool (fitB7 x)) ∧ Nw w w' := by
 obtain ⟨A, c, rfl⟩ := Ty.Sl_form h1
 obtain ⟨A', c', rfl⟩ := Ty.Sl_form h2
 go_enter Tryz.func139, Tryz.ntmps139
 go_wp2
 all_goals go_ret
 all_goals exact ⟨ret_bool (by unfold fitB7; unfold fLen fStr; simp; omega), (Nw.refl _).alloc _⟩
theorem zz6 (xs : List Adr) (v : Value) (w : World) (h : tyAdr.Sl w xs v) :
 Calls Tryz.prog 117 #[v] w fun e w' => e = .returned (.bool (fitB6 xs)) ∧ Nw w w' := by
 obtain ⟨hm, h⟩ := h
 by_cases hl : (2147483647 : Int) < (xs.length : Int)
 · have HF : Hid (fitB6 xs = false) := Lib.hid (by unfold fitB6 fLen; simp; omega)
   rcases h with ⟨rfl, A, c, rfl, _⟩ | ⟨hp, b, o, c, rfl, hc, ha⟩
   · simp at hl
   · go_enter Tryz.func117, Tryz.ntmps117
     go_wp2
     go_ret
     exact ⟨ret_bool HF.out.symm, Nw.refl _⟩
 · have HF : Hid (fitB6 xs = xs.all fitB7) := Lib.hid (by unfold fitB6 fLen; simp; omega)
   rcases h with ⟨rfl, A, c, rfl, _⟩ | ⟨hp, b, o, c, rfl, hc, ha⟩
   · go_enter Tryz.func117, Tryz.ntmps117
     go_wp2
     refine wp_loop_rounds 1 ?_
     rw [rounds_succ]
     go_wp2
     go_ret
     exact ⟨ret_bool rfl, Nw.refl _⟩
   · go_enter Tryz.func117, Tryz.ntmps117
     go_wp2
     go_loopw [10] (fun i wr => ∃ k : Nat, k ≤ xs.length ∧ i = .int .i64 k ∧ Hid ((xs.take k).all fitB7 = true) ∧ Nw w wr) (fun i _ => xs.length - (intOf i).toNat)
     case atStart => exact ⟨0, Nat.zero_le _, rfl, Lib.hid (by simp), Nw.refl _⟩
     case round =>
      obtain ⟨k, hk, rfl, hall, hnw⟩ := hrel
      by_cases hlt : k < xs.length
      · obtain ⟨cs, ⟨v1, v2, rfl, h0, h1, h2⟩, hx⟩ := Ty.At_loc hnw.block ha k _ (List.getElem?_eq_getElem hlt)
        obtain ⟨A0, n0, rfl⟩ := Ty.Sl_form h1
        obtain ⟨A1, n1, rfl⟩ := Ty.Sl_form h2
        have c0 := hx 0 _ rfl
        have c1 := hx 1 _ rfl
        have c2 := hx 2 _ rfl
        simp only [tyAdr, tyInt, Ty.flat, Nat.mul_one, Nat.add_zero] at c0 c1 c2
        have HT : Hid ((xs.take (k + 1)).all fitB7 = fitB7 xs[k]) := Lib.hid (take_all hlt hall.out)
        have HN : Hid (fitB7 xs[k] = false → xs.all fitB7 = false) := Lib.hid (all_false hlt)
        clear hx
        go_wp2_with (go_at_call 139; refine (zz7 xs[k] _ _ _ (by exact Ty.Sl_loc ((Nw.refl wr).alloc _).block h1) (by exact Ty.Sl_loc ((Nw.refl wr).alloc _).block h2)).mono ?_; rintro e w1 ⟨rfl, hn1⟩)
        · go_ret
          exact ⟨ret_bool (by rw [HF.out, HN.out (by simp_all)]), (hnw.alloc _).trans hn1⟩
        · exact ⟨⟨k + 1, by omega, by go_num, Lib.hid (by rw [HT.out]; simp_all), (hnw.alloc _).trans hn1⟩, by simp [intOf]; omega⟩
      · go_wp2
        go_ret
        exact ⟨ret_bool (by rw [HF.out, ← hall.out, List.take_of_length_le (by omega)]), hnw⟩
theorem zz5 (x : Con) (v1 : Value) (w : World) (h1 : tyAdr.Sl w x.adrs v1) :
 Calls Tryz.prog 57 #[.agg #[.string x.net, .string x.addr, v1]] w fun e w' => e = .returned (.bool (fitB5 x)) ∧ Nw w w' := by
 obtain ⟨A, c, rfl⟩ := Ty.Sl_form h1
 go_enter Tryz.func57, Tryz.ntmps57
 go_wp2_with (first | (go_at_call 117; refine (zz6 x.adrs _ _ (by exact Ty.Sl_loc ((Nw.refl w).alloc _).block h1)).mono ?_; rintro e w1 ⟨rfl, hn1⟩))
 all_goals go_ret
 all_goals exact ⟨ret_bool (by unfold fitB5; unfold fStr; (first | (simp; omega) | (simp_all; omega) | simp_all)), by first | exact (Nw.refl _).alloc _ | exact ((Nw.refl _).alloc _).trans (by assumption)⟩
theorem zz4 (xs : List Con) (v : Value) (w : World) (h : tyCon.Sl w xs v) :
 Calls Tryz.prog 23 #[v] w fun e w' => e = .returned (.bool (fitB4 xs)) ∧ Nw w w' := by
 obtain ⟨hm, h⟩ := h
 by_cases hl : (2147483647 : Int) < (xs.length : Int)
 · have HF : Hid (fitB4 xs = false) := Lib.hid (by unfold fitB4 fLen; simp; omega)
   rcases h with ⟨rfl, A, c, rfl, _⟩ | ⟨hp, b, o, c, rfl, hc, ha⟩
   · simp at hl
   · go_enter Tryz.func23, Tryz.ntmps23
     go_wp2
     go_ret
     exact ⟨ret_bool HF.out.symm, Nw.refl _⟩
 · have HF : Hid (fitB4 xs = xs.all fitB5) := Lib.hid (by unfold fitB4 fLen; simp; omega)
   rcases h with ⟨rfl, A, c, rfl, _⟩ | ⟨hp, b, o, c, rfl, hc, ha⟩
   · go_enter Tryz.func23, Tryz.ntmps23
     go_wp2
     refine wp_loop_rounds 1 ?_
     rw [rounds_succ]
     go_wp2
     go_ret
     exact ⟨ret_bool rfl, Nw.refl _⟩
   · go_enter Tryz.func23, Tryz.ntmps23
     go_wp2
     go_loopw [10] (fun i wr => ∃ k : Nat, k ≤ xs.length ∧ i = .int .i64 k ∧ Hid ((xs.take k).all fitB5 = true) ∧ Nw w wr) (fun i _ => xs.length - (intOf i).toNat)
     case atStart => exact ⟨0, Nat.zero_le _, rfl, Lib.hid (by simp), Nw.refl _⟩
     case round =>
      obtain ⟨k, hk, rfl, hall, hnw⟩ := hrel
      by_cases hlt : k < xs.length
      · obtain ⟨cs, ⟨v1, rfl, h0, h0', h1⟩, hx⟩ := Ty.At_loc hnw.block ha k _ (List.getElem?_eq_getElem hlt)
        obtain ⟨A0, n0, rfl⟩ := Ty.Sl_form h1
        have c0 := hx 0 _ rfl
        have c1 := hx 1 _ rfl
        have c2 := hx 2 _ rfl
        simp only [tyCon, tyInt, Ty.flat, Nat.mul_one, Nat.add_zero] at c0 c1 c2
        have HT : Hid ((xs.take (k + 1)).all fitB5 = fitB5 xs[k]) := Lib.hid (take_all hlt hall.out)
        have HN : Hid (fitB5 xs[k] = false → xs.all fitB5 = false) := Lib.hid (all_false hlt)
        clear hx
        go_wp2_with (go_at_call 57; refine (zz5 xs[k] _ _ (by exact Ty.Sl_loc ((Nw.refl wr).alloc _).block h1)).mono ?_; rintro e w1 ⟨rfl, hn1⟩)
        · go_ret
          exact ⟨ret_bool (by rw [HF.out, HN.out (by simp_all)]), (hnw.alloc _).trans hn1⟩
        · exact ⟨⟨k + 1, by omega, by go_num, Lib.hid (by rw [HT.out]; simp_all), (hnw.alloc _).trans hn1⟩, by simp [intOf]; omega⟩
      · go_wp2
        go_ret
        exact ⟨ret_bool (by rw [HF.out, ← hall.out, List.take_of_length_le (by omega)]), hnw⟩
theorem zz9 (x : Bwd) (w : World) :
 Calls Tryz.prog 58 #[.agg #[.bool x.x, .string x.ty, .int .u64 x.n]] w fun e w' => e = .returned (.bool (fitB9 x)) ∧ Nw w w' := by
 go_enter Tryz.func58, Tryz.ntmps58
 go_wp2
 all_goals go_ret
 all_goals exact ⟨ret_bool (by unfold fitB9; unfold fStr; simp; omega), (Nw.refl _).alloc _⟩
theorem zz8 (xs : List Bwd) (v : Value) (w : World) (h : tyBwd.Sl w xs v) :
 Calls Tryz.prog 24 #[v] w fun e w' => e = .returned (.bool (fitB8 xs)) ∧ Nw w w' := by
 obtain ⟨hm, h⟩ := h
 by_cases hl : (2147483647 : Int) < (xs.length : Int)
 · have HF : Hid (fitB8 xs = false) := Lib.hid (by unfold fitB8 fLen; simp; omega)
   rcases h with ⟨rfl, A, c, rfl, _⟩ | ⟨hp, b, o, c, rfl, hc, ha⟩
   · simp at hl
   · go_enter Tryz.func24, Tryz.ntmps24
     go_wp2
     go_ret
     exact ⟨ret_bool HF.out.symm, Nw.refl _⟩
 · have HF : Hid (fitB8 xs = xs.all fitB9) := Lib.hid (by unfold fitB8 fLen; simp; omega)
   rcases h with ⟨rfl, A, c, rfl, _⟩ | ⟨hp, b, o, c, rfl, hc, ha⟩
   · go_enter Tryz.func24, Tryz.ntmps24
     go_wp2
     refine wp_loop_rounds 1 ?_
     rw [rounds_succ]
     go_wp2
     go_ret
     exact ⟨ret_bool rfl, Nw.refl _⟩
   · go_enter Tryz.func24, Tryz.ntmps24
     go_wp2
     go_loopw [10] (fun i wr => ∃ k : Nat, k ≤ xs.length ∧ i = .int .i64 k ∧ Hid ((xs.take k).all fitB9 = true) ∧ Nw w wr) (fun i _ => xs.length - (intOf i).toNat)
     case atStart => exact ⟨0, Nat.zero_le _, rfl, Lib.hid (by simp), Nw.refl _⟩
     case round =>
      obtain ⟨k, hk, rfl, hall, hnw⟩ := hrel
      by_cases hlt : k < xs.length
      · obtain ⟨cs, ⟨rfl, _⟩, hx⟩ := Ty.At_loc hnw.block ha k _ (List.getElem?_eq_getElem hlt)
        have c0 := hx 0 _ rfl
        have c1 := hx 1 _ rfl
        have c2 := hx 2 _ rfl
        simp only [tyBwd, tyInt, Ty.flat, Nat.mul_one, Nat.add_zero] at c0 c1 c2
        have HT : Hid ((xs.take (k + 1)).all fitB9 = fitB9 xs[k]) := Lib.hid (take_all hlt hall.out)
        have HN : Hid (fitB9 xs[k] = false → xs.all fitB9 = false) := Lib.hid (all_false hlt)
        clear hx
        go_wp2_with (go_at_call 58; refine (zz9 xs[k] _).mono ?_; rintro e w1 ⟨rfl, hn1⟩)
        · go_ret
          exact ⟨ret_bool (by rw [HF.out, HN.out (by simp_all)]), (hnw.alloc _).trans hn1⟩
        · exact ⟨⟨k + 1, by omega, by go_num, Lib.hid (by rw [HT.out]; simp_all), (hnw.alloc _).trans hn1⟩, by simp [intOf]; omega⟩
      · go_wp2
        go_ret
        exact ⟨ret_bool (by rw [HF.out, ← hall.out, List.take_of_length_le (by omega)]), hnw⟩
theorem zz13 (x : Rep) (v1 : Value) (w : World) (h1 : tyI.Sl w x.offs v1) :
 Calls Tryz.prog 140 #[.agg #[.int .i64 x.ivl, .int .i64 x.dur, v1]] w fun e w' => e = .returned (.bool (fitB13 x)) ∧ Nw w w' := by
 obtain ⟨A, c, rfl⟩ := Ty.Sl_form h1
 go_enter Tryz.func140, Tryz.ntmps140
 go_wp2
 all_goals go_ret
 all_goals exact ⟨ret_bool (by unfold fitB13; unfold fLen; simp; omega), (Nw.refl _).alloc _⟩
theorem zz12 (xs : List Rep) (v : Value) (w : World) (h : tyRep.Sl w xs v) :
 Calls Tryz.prog 118 #[v] w fun e w' => e = .returned (.bool (fitB12 xs)) ∧ Nw w w' := by
 obtain ⟨hm, h⟩ := h
 by_cases hl : (2147483647 : Int) < (xs.length : Int)
 · have HF : Hid (fitB12 xs = false) := Lib.hid (by unfold fitB12 fLen; simp; omega)
   rcases h with ⟨rfl, A, c, rfl, _⟩ | ⟨hp, b, o, c, rfl, hc, ha⟩
   · simp at hl
   · go_enter Tryz.func118, Tryz.ntmps118
     go_wp2
     go_ret
     exact ⟨ret_bool HF.out.symm, Nw.refl _⟩
 · have HF : Hid (fitB12 xs = xs.all fitB13) := Lib.hid (by unfold fitB12 fLen; simp; omega)
   rcases h with ⟨rfl, A, c, rfl, _⟩ | ⟨hp, b, o, c, rfl, hc, ha⟩
   · go_enter Tryz.func118, Tryz.ntmps118
     go_wp2
     refine wp_loop_rounds 1 ?_
     rw [rounds_succ]
     go_wp2
     go_ret
     exact ⟨ret_bool rfl, Nw.refl _⟩
   · go_enter Tryz.func118, Tryz.ntmps118
     go_wp2
     go_loopw [10] (fun i wr => ∃ k : Nat, k ≤ xs.length ∧ i = .int .i64 k ∧ Hid ((xs.take k).all fitB13 = true) ∧ Nw w wr) (fun i _ => xs.length - (intOf i).toNat)
     case atStart => exact ⟨0, Nat.zero_le _, rfl, Lib.hid (by simp), Nw.refl _⟩
     case round =>
      obtain ⟨k, hk, rfl, hall, hnw⟩ := hrel
      by_cases hlt : k < xs.length
      · obtain ⟨cs, ⟨v1, rfl, h0, h0', h1⟩, hx⟩ := Ty.At_loc hnw.block ha k _ (List.getElem?_eq_getElem hlt)
        obtain ⟨A0, n0, rfl⟩ := Ty.Sl_form h1
        have c0 := hx 0 _ rfl
        have c1 := hx 1 _ rfl
        have c2 := hx 2 _ rfl
        simp only [tyRep, tyInt, Ty.flat, Nat.mul_one, Nat.add_zero] at c0 c1 c2
        have HT : Hid ((xs.take (k + 1)).all fitB13 = fitB13 xs[k]) := Lib.hid (take_all hlt hall.out)
        have HN : Hid (fitB13 xs[k] = false → xs.all fitB13 = false) := Lib.hid (all_false hlt)
        clear hx
        go_wp2_with (go_at_call 140; refine (zz13 xs[k] _ _ (by exact Ty.Sl_loc ((Nw.refl wr).alloc _).block h1)).mono ?_; rintro e w1 ⟨rfl, hn1⟩)
        · go_ret
          exact ⟨ret_bool (by rw [HF.out, HN.out (by simp_all)]), (hnw.alloc _).trans hn1⟩
        · exact ⟨⟨k + 1, by omega, by go_num, Lib.hid (by rw [HT.out]; simp_all), (hnw.alloc _).trans hn1⟩, by simp [intOf]; omega⟩
      · go_wp2
        go_ret
        exact ⟨ret_bool (by rw [HF.out, ← hall.out, List.take_of_length_le (by omega)]), hnw⟩
theorem zz11 (x : Tim) (v1 : Value) (w : World) (h1 : tyRep.Sl w x.reps v1) :
 Calls Tryz.prog 59 #[.agg #[.int .u64 x.start, .int .u64 x.stop, v1]] w fun e w' => e = .returned (.bool (fitB11 x)) ∧ Nw w w' := by
 obtain ⟨A, c, rfl⟩ := Ty.Sl_form h1
 go_enter Tryz.func59, Tryz.ntmps59
 go_wp2_with (first | (go_at_call 118; refine (zz12 x.reps _ _ (by exact Ty.Sl_loc ((Nw.refl w).alloc _).block h1)).mono ?_; rintro e w1 ⟨rfl, hn1⟩))
 all_goals go_ret
 all_goals exact ⟨ret_bool (by unfold fitB11; simp_all), by first | exact (Nw.refl _).alloc _ | exact ((Nw.refl _).alloc _).trans (by assumption)⟩
theorem zz10 (xs : List Tim) (v : Value) (w : World) (h : tyTim.Sl w xs v) :
 Calls Tryz.prog 25 #[v] w fun e w' => e = .returned (.bool (fitB10 xs)) ∧ Nw w w' := by
 obtain ⟨hm, h⟩ := h
 by_cases hl : (2147483647 : Int) < (xs.length : Int)
 · have HF : Hid (fitB10 xs = false) := Lib.hid (by unfold fitB10 fLen; simp; omega)
   rcases h with ⟨rfl, A, c, rfl, _⟩ | ⟨hp, b, o, c, rfl, hc, ha⟩
   · simp at hl
   · go_enter Tryz.func25, Tryz.ntmps25
     go_wp2
     go_ret
     exact ⟨ret_bool HF.out.symm, Nw.refl _⟩
 · have HF : Hid (fitB10 xs = xs.all fitB11) := Lib.hid (by unfold fitB10 fLen; simp; omega)
   rcases h with ⟨rfl, A, c, rfl, _⟩ | ⟨hp, b, o, c, rfl, hc, ha⟩
   · go_enter Tryz.func25, Tryz.ntmps25
     go_wp2
     refine wp_loop_rounds 1 ?_
     rw [rounds_succ]
     go_wp2
     go_ret
     exact ⟨ret_bool rfl, Nw.refl _⟩
   · go_enter Tryz.func25, Tryz.ntmps25
     go_wp2
     go_loopw [10] (fun i wr => ∃ k : Nat, k ≤ xs.length ∧ i = .int .i64 k ∧ Hid ((xs.take k).all fitB11 = true) ∧ Nw w wr) (fun i _ => xs.length - (intOf i).toNat)
     case atStart => exact ⟨0, Nat.zero_le _, rfl, Lib.hid (by simp), Nw.refl _⟩
     case round =>
      obtain ⟨k, hk, rfl, hall, hnw⟩ := hrel
      by_cases hlt : k < xs.length
      · obtain ⟨cs, ⟨v1, rfl, h0, h0', h1⟩, hx⟩ := Ty.At_loc hnw.block ha k _ (List.getElem?_eq_getElem hlt)
        obtain ⟨A0, n0, rfl⟩ := Ty.Sl_form h1
        have c0 := hx 0 _ rfl
        have c1 := hx 1 _ rfl
        have c2 := hx 2 _ rfl
        simp only [tyTim, tyInt, Ty.flat, Nat.mul_one, Nat.add_zero] at c0 c1 c2
        have HT : Hid ((xs.take (k + 1)).all fitB11 = fitB11 xs[k]) := Lib.hid (take_all hlt hall.out)
        have HN : Hid (fitB11 xs[k] = false → xs.all fitB11 = false) := Lib.hid (all_false hlt)
        clear hx
        go_wp2_with (go_at_call 59; refine (zz11 xs[k] _ _ (by exact Ty.Sl_loc ((Nw.refl wr).alloc _).block h1)).mono ?_; rintro e w1 ⟨rfl, hn1⟩)
        · go_ret
          exact ⟨ret_bool (by rw [HF.out, HN.out (by simp_all)]), (hnw.alloc _).trans hn1⟩
        · exact ⟨⟨k + 1, by omega, by go_num, Lib.hid (by rw [HT.out]; simp_all), (hnw.alloc _).trans hn1⟩, by simp [intOf]; omega⟩
      · go_wp2
        go_ret
        exact ⟨ret_bool (by rw [HF.out, ← hall.out, List.take_of_length_le (by omega)]), hnw⟩
theorem zz15 (x : Att) (w : World) :
 Calls Tryz.prog 60 #[.agg #[.string x.key, .string x.val]] w fun e w' => e = .returned (.bool (fitB15 x)) ∧ Nw w w' := by
 go_enter Tryz.func60, Tryz.ntmps60
 go_wp2
 all_goals go_ret
 all_goals exact ⟨ret_bool (by unfold fitB15; unfold fStr; simp; omega), (Nw.refl _).alloc _⟩
theorem zz14 (xs : List Att) (v : Value) (w : World) (h : tyAtt.Sl w xs v) :
 Calls Tryz.prog 26 #[v] w fun e w' => e = .returned (.bool (fitB14 xs)) ∧ Nw w w' := by
 obtain ⟨hm, h⟩ := h
 by_cases hl : (2147483647 : Int) < (xs.length : Int)
 · have HF : Hid (fitB14 xs = false) := Lib.hid (by unfold fitB14 fLen; simp; omega)
   rcases h with ⟨rfl, A, c, rfl, _⟩ | ⟨hp, b, o, c, rfl, hc, ha⟩
   · simp at hl
   · go_enter Tryz.func26, Tryz.ntmps26
     go_wp2
     go_ret
     exact ⟨ret_bool HF.out.symm, Nw.refl _⟩
 · have HF : Hid (fitB14 xs = xs.all fitB15) := Lib.hid (by unfold fitB14 fLen; simp; omega)
   rcases h with ⟨rfl, A, c, rfl, _⟩ | ⟨hp, b, o, c, rfl, hc, ha⟩
   · go_enter Tryz.func26, Tryz.ntmps26
     go_wp2
     refine wp_loop_rounds 1 ?_
     rw [rounds_succ]
     go_wp2
     go_ret
     exact ⟨ret_bool rfl, Nw.refl _⟩
   · go_enter Tryz.func26, Tryz.ntmps26
     go_wp2
     go_loopw [10] (fun i wr => ∃ k : Nat, k ≤ xs.length ∧ i = .int .i64 k ∧ Hid ((xs.take k).all fitB15 = true) ∧ Nw w wr) (fun i _ => xs.length - (intOf i).toNat)
     case atStart => exact ⟨0, Nat.zero_le _, rfl, Lib.hid (by simp), Nw.refl _⟩
     case round =>
      obtain ⟨k, hk, rfl, hall, hnw⟩ := hrel
      by_cases hlt : k < xs.length
      · obtain ⟨cs, ⟨rfl, _⟩, hx⟩ := Ty.At_loc hnw.block ha k _ (List.getElem?_eq_getElem hlt)
        have c0 := hx 0 _ rfl
        have c1 := hx 1 _ rfl
        simp only [tyAtt, tyInt, Ty.flat, Nat.mul_one, Nat.add_zero] at c0 c1
        have HT : Hid ((xs.take (k + 1)).all fitB15 = fitB15 xs[k]) := Lib.hid (take_all hlt hall.out)
        have HN : Hid (fitB15 xs[k] = false → xs.all fitB15 = false) := Lib.hid (all_false hlt)
        clear hx
        go_wp2_with (go_at_call 60; refine (zz15 xs[k] _).mono ?_; rintro e w1 ⟨rfl, hn1⟩)
        · go_ret
          exact ⟨ret_bool (by rw [HF.out, HN.out (by simp_all)]), (hnw.alloc _).trans hn1⟩
        · exact ⟨⟨k + 1, by omega, by go_num, Lib.hid (by rw [HT.out]; simp_all), (hnw.alloc _).trans hn1⟩, by simp [intOf]; omega⟩
      · go_wp2
        go_ret
        exact ⟨ret_bool (by rw [HF.out, ← hall.out, List.take_of_length_le (by omega)]), hnw⟩
theorem zz17 (x : Med) (v0 v1 v2 v3 v4 v5 v6 v7 : Value) (w : World) (m : MedAt w x v0 v1 v2 v3 v4 v5 v6 v7) :
 Calls Tryz.prog 61 #[.agg #[.string x.name, .int .i64 x.port, v0, v1, v2, v3, v4, v5, v6, v7]] w fun e w' => e = .returned (.bool (fitB17 x)) ∧ Nw w w' := by
 obtain ⟨A0, c0, rfl⟩ := Ty.Sl_form m.ports
 obtain ⟨A1, c1, rfl⟩ := Ty.Sl_form m.protos
 obtain ⟨A2, c2, rfl⟩ := Ty.Sl_form m.fmts
 obtain ⟨A3, c3, rfl⟩ := Ty.Sl_form m.title
 obtain ⟨A4, c4, rfl⟩ := Ty.Sl_form m.conn
 obtain ⟨A5, c5, rfl⟩ := Ty.Sl_form m.bws
 obtain ⟨A6, c6, rfl⟩ := Ty.Sl_form m.key
 obtain ⟨A7, c7, rfl⟩ := Ty.Sl_form m.atts
 have q0 : Nw w (w.alloc (.cells #[.string x.name, .int .i64 x.port, .slice A0 x.ports.length c0, .slice A1 x.protos.length c1, .slice A2 x.fmts.length c2, .slice A3 x.title.length c3, .slice A4 x.conn.length c4, .slice A5 x.bws.length c5, .slice A6 x.key.length c6, .slice A7 x.atts.length c7] 84)) := (Nw.refl w).alloc _
 have p0 := Nw.refl (w.alloc (.cells #[.string x.name, .int .i64 x.port, .slice A0 x.ports.length c0, .slice A1 x.protos.length c1, .slice A2 x.fmts.length c2, .slice A3 x.title.length c3, .slice A4 x.conn.length c4, .slice A5 x.bws.length c5, .slice A6 x.key.length c6, .slice A7 x.atts.length c7] 84))
 go_enter Tryz.func61, Tryz.ntmps61
 go_wp2_with fail
 all_goals try (go_ret; exact ⟨ret_bool (by unfold fitB17 fStr fLen; simp; omega), q0⟩)
 refine (zz3 x.protos _ _ (by exact Ty.Sl_loc (Nw.block q0) m.protos)).mono ?_
 rintro e w1 ⟨rfl, n1⟩
 have q1 : Nw w w1 := q0.trans n1
 have p1 := p0.trans n1
 have x1 := Nw.box p1
 go_wp2_with fail
 all_goals try (go_ret; exact ⟨ret_bool (by unfold fitB17 fStr fLen; first | (simp_all; done) | (simp_all; omega)), q1⟩)
 refine (zz3 x.fmts _ _ (by exact Ty.Sl_loc (Nw.block q1) m.fmts)).mono ?_
 rintro e w2 ⟨rfl, n2⟩
 have q2 : Nw w w2 := q1.trans n2
 have p2 := p1.trans n2
 have x2 := Nw.box p2
 go_wp2_with fail
 all_goals try (go_ret; exact ⟨ret_bool (by unfold fitB17 fStr fLen; first | (simp_all; done) | (simp_all; omega)), q2⟩)
 refine (zz3 x.title _ _ (by exact Ty.Sl_loc (Nw.block q2) m.title)).mono ?_
 rintro e w3 ⟨rfl, n3⟩
 have q3 : Nw w w3 := q2.trans n3
 have p3 := p2.trans n3
 have x3 := Nw.box p3
 go_wp2_with fail
 all_goals try (go_ret; exact ⟨ret_bool (by unfold fitB17 fStr fLen; first | (simp_all; done) | (simp_all; omega)), q3⟩)
 refine (zz4 x.conn _ _ (by exact Ty.Sl_loc (Nw.block q3) m.conn)).mono ?_
 rintro e w4 ⟨rfl, n4⟩
 have q4 : Nw w w4 := q3.trans n4
 have p4 := p3.trans n4
 have x4 := Nw.box p4
 go_wp2_with fail
 all_goals try (go_ret; exact ⟨ret_bool (by unfold fitB17 fStr fLen; first | (simp_all; done) | (simp_all; omega)), q4⟩)
 refine (zz8 x.bws _ _ (by exact Ty.Sl_loc (Nw.block q4) m.bws)).mono ?_
 rintro e w5 ⟨rfl, n5⟩
 have q5 : Nw w w5 := q4.trans n5
 have p5 := p4.trans n5
 have x5 := Nw.box p5
 go_wp2_with fail
 all_goals try (go_ret; exact ⟨ret_bool (by unfold fitB17 fStr fLen; first | (simp_all; done) | (simp_all; omega)), q5⟩)
 refine (zz3 x.key _ _ (by exact Ty.Sl_loc (Nw.block q5) m.key)).mono ?_
 rintro e w6 ⟨rfl, n6⟩
 have q6 : Nw w w6 := q5.trans n6
 have p6 := p5.trans n6
 have x6 := Nw.box p6
 go_wp2_with fail
 all_goals try (go_ret; exact ⟨ret_bool (by unfold fitB17 fStr fLen; first | (simp_all; done) | (simp_all; omega)), q6⟩)
 refine (zz14 x.atts _ _ (by exact Ty.Sl_loc (Nw.block q6) m.atts)).mono ?_
 rintro e w7 ⟨rfl, n7⟩
 have q7 : Nw w w7 := q6.trans n7
 have p7 := p6.trans n7
 have x7 := Nw.box p7
 go_wp2_with fail
 all_goals (go_ret; exact ⟨ret_bool (by unfold fitB17 fStr fLen; first | (simp_all; done) | (simp_all; omega)), q7⟩)
theorem tyMed_cells {w : World} {x : Med} {b o : Nat} {v0 v1 v2 v3 v4 v5 v6 v7 : Value} (h : ∀ (j : Nat) u, [Value.string x.name, .int .i64 x.port, v0, v1, v2, v3, v4, v5, v6, v7][j]? = some u → w.cell? ⟨b, o + j, none⟩ = some u) :
 w.cell? ⟨b, o, none⟩ = some (.string x.name) ∧ w.cell? ⟨b, o + 1, none⟩ = some (.int .i64 x.port) ∧ w.cell? ⟨b, o + 2, none⟩ = some v0 ∧ w.cell? ⟨b, o + 3, none⟩ = some v1 ∧ w.cell? ⟨b, o + 4, none⟩ = some v2 ∧ w.cell? ⟨b, o + 5, none⟩ = some v3 ∧ w.cell? ⟨b, o + 6, none⟩ = some v4 ∧ w.cell? ⟨b, o + 7, none⟩ = some v5 ∧ w.cell? ⟨b, o + 8, none⟩ = some v6 ∧ w.cell? ⟨b, o + 9, none⟩ = some v7 :=
 ⟨h 0 _ rfl, h 1 _ rfl, h 2 _ rfl, h 3 _ rfl, h 4 _ rfl, h 5 _ rfl, h 6 _ rfl, h 7 _ rfl, h 8 _ rfl, h 9 _ rfl⟩
theorem zz16 (xs : List Med) (v : Value) (w : World) (h : tyMed.Sl w xs v) :
 Calls Tryz.prog 27 #[v] w fun e w' => e = .returned (.bool (fitB16 xs)) ∧ Nw w w' := by
 obtain ⟨hm, h⟩ := h
 by_cases hl : (2147483647 : Int) < (xs.length : Int)
 · have HF : Hid (fitB16 xs = false) := Lib.hid (by unfold fitB16 fLen; simp; omega)
   rcases h with ⟨rfl, A, c, rfl, _⟩ | ⟨hp, b, o, c, rfl, hc, ha⟩
   · simp at hl
   · go_enter Tryz.func27, Tryz.ntmps27
     go_wp2
     go_ret
     exact ⟨ret_bool HF.out.symm, Nw.refl _⟩
 · have HF : Hid (fitB16 xs = xs.all fitB17) := Lib.hid (by unfold fitB16 fLen; simp; omega)
   rcases h with ⟨rfl, A, c, rfl, _⟩ | ⟨hp, b, o, c, rfl, hc, ha⟩
   · go_enter Tryz.func27, Tryz.ntmps27
     go_wp2
     refine wp_loop_rounds 1 ?_
     rw [rounds_succ]
     go_wp2
     go_ret
     exact ⟨ret_bool rfl, Nw.refl _⟩
   · go_enter Tryz.func27, Tryz.ntmps27
     go_wp2
     go_loopw [10] (fun i wr => ∃ k : Nat, k ≤ xs.length ∧ i = .int .i64 k ∧ Hid ((xs.take k).all fitB17 = true) ∧ Nw w wr) (fun i _ => xs.length - (intOf i).toNat)
     case atStart => exact ⟨0, Nat.zero_le _, rfl, Lib.hid (by simp), Nw.refl _⟩
     case round =>
      obtain ⟨k, hk, rfl, hall, hnw⟩ := hrel
      by_cases hlt : k < xs.length
      · obtain ⟨cs, ⟨v0, v1, v2, v3, v4, v5, v6, v7, rfl, m⟩, hx⟩ := Ty.At_loc hnw.block ha k _ (List.getElem?_eq_getElem hlt)
        obtain ⟨A0, n0, rfl⟩ := Ty.Sl_form m.ports
        obtain ⟨A1, n1, rfl⟩ := Ty.Sl_form m.protos
        obtain ⟨A2, n2, rfl⟩ := Ty.Sl_form m.fmts
        obtain ⟨A3, n3, rfl⟩ := Ty.Sl_form m.title
        obtain ⟨A4, n4, rfl⟩ := Ty.Sl_form m.conn
        obtain ⟨A5, n5, rfl⟩ := Ty.Sl_form m.bws
        obtain ⟨A6, n6, rfl⟩ := Ty.Sl_form m.key
        obtain ⟨A7, n7, rfl⟩ := Ty.Sl_form m.atts
        have c0 := hx 0 _ rfl
        have c1 := hx 1 _ rfl
        have c2 := hx 2 _ rfl
        have c3 := hx 3 _ rfl
        have c4 := hx 4 _ rfl
        have c5 := hx 5 _ rfl
        have c6 := hx 6 _ rfl
        have c7 := hx 7 _ rfl
        have c8 := hx 8 _ rfl
        have c9 := hx 9 _ rfl
        simp only [tyMed, tyInt, Ty.flat, Nat.mul_one, Nat.add_zero] at c0 c1 c2 c3 c4 c5 c6 c7 c8 c9
        have HT : Hid ((xs.take (k + 1)).all fitB17 = fitB17 xs[k]) := Lib.hid (take_all hlt hall.out)
        have HN : Hid (fitB17 xs[k] = false → xs.all fitB17 = false) := Lib.hid (all_false hlt)
        clear hx
        go_wp2_with (go_at_call 61; refine (zz17 xs[k] _ _ _ _ _ _ _ _ _ (by exact m.loc ((Nw.refl wr).alloc _).block)).mono ?_; rintro e w1 ⟨rfl, hn1⟩)
        · go_ret
          exact ⟨ret_bool (by rw [HF.out, HN.out (by simp_all)]), (hnw.alloc _).trans hn1⟩
        · exact ⟨⟨k + 1, by omega, by go_num, Lib.hid (by rw [HT.out]; simp_all), (hnw.alloc _).trans hn1⟩, by simp [intOf]; omega⟩
      · go_wp2
        go_ret
        exact ⟨ret_bool (by rw [HF.out, ← hall.out, List.take_of_length_le (by omega)]), hnw⟩
theorem zz1 (x : Ssn) (v0 v1 v2 v3 v4 v5 v6 v7 v8 v9 v10 : Value) (w : World) (m : SsnAt w x v0 v1 v2 v3 v4 v5 v6 v7 v8 v9 v10) :
 Calls Tryz.prog 8 #[ssnVal x v0 v1 v2 v3 v4 v5 v6 v7 v8 v9 v10] w fun e w' => e = .returned (.bool (fitB1 x)) ∧ Nw w w' := by
 obtain ⟨A0, c0, rfl⟩ := Ty.Sl_form m.info
 obtain ⟨A1, c1, rfl⟩ := Ty.Sl_form m.uri
 obtain ⟨A2, c2, rfl⟩ := Ty.Sl_form m.email
 obtain ⟨A3, c3, rfl⟩ := Ty.Sl_form m.phone
 obtain ⟨A4, c4, rfl⟩ := Ty.Sl_form m.conn
 obtain ⟨A5, c5, rfl⟩ := Ty.Sl_form m.bws
 obtain ⟨A6, c6, rfl⟩ := Ty.Sl_form m.times
 obtain ⟨A7, c7, rfl⟩ := Ty.Sl_form m.zones
 obtain ⟨A8, c8, rfl⟩ := Ty.Sl_form m.key
 obtain ⟨A9, c9, rfl⟩ := Ty.Sl_form m.atts
 obtain ⟨A10, c10, rfl⟩ := Ty.Sl_form m.media
 have q0 : Nw w (w.alloc (.cells #[.int .i64 x.ver, .string x.org.user, .int .u64 x.org.id, .int .u64 x.org.ver, .string x.org.net, .string x.org.addr, .string x.org.adr, .string x.name, .slice A0 x.info.length c0, .slice A1 x.uri.length c1, .slice A2 x.email.length c2, .slice A3 x.phone.length c3, .slice A4 x.conn.length c4, .slice A5 x.bws.length c5, .slice A6 x.times.length c6, .slice A7 x.zones.length c7, .slice A8 x.key.length c8, .slice A9 x.atts.length c9, .slice A10 x.media.length c10] 33)) := (Nw.refl w).alloc _
 have p0 := Nw.refl (w.alloc (.cells #[.int .i64 x.ver, .string x.org.user, .int .u64 x.org.id, .int .u64 x.org.ver, .string x.org.net, .string x.org.addr, .string x.org.adr, .string x.name, .slice A0 x.info.length c0, .slice A1 x.uri.length c1, .slice A2 x.email.length c2, .slice A3 x.phone.length c3, .slice A4 x.conn.length c4, .slice A5 x.bws.length c5, .slice A6 x.times.length c6, .slice A7 x.zones.length c7, .slice A8 x.key.length c8, .slice A9 x.atts.length c9, .slice A10 x.media.length c10] 33))
 unfold ssnVal
 go_enter Tryz.func8, Tryz.ntmps8
 go_wp2_with fail
 all_goals try (go_ret; exact ⟨ret_bool (by unfold fitB1 fStr fLen; simp; omega), q0⟩)
 refine (zz2 x.org _).mono ?_
 rintro e w1 ⟨rfl, n1⟩
 have q1 : Nw w w1 := q0.trans n1
 have p1 := p0.trans n1
 have x1 := Nw.box p1
 go_wp2_with fail
 all_goals try (go_ret; exact ⟨ret_bool (by unfold fitB1 fStr fLen; first | (simp_all; done) | (simp_all; omega)), q1⟩)
 refine (zz3 x.info _ _ (by exact Ty.Sl_loc (Nw.block q1) m.info)).mono ?_
 rintro e w2 ⟨rfl, n2⟩
 have q2 : Nw w w2 := q1.trans n2
 have p2 := p1.trans n2
 have x2 := Nw.box p2
 go_wp2_with fail
 all_goals try (go_ret; exact ⟨ret_bool (by unfold fitB1 fStr fLen; first | (simp_all; done) | (simp_all; omega)), q2⟩)
 refine (zz3 x.uri _ _ (by exact Ty.Sl_loc (Nw.block q2) m.uri)).mono ?_
 rintro e w3 ⟨rfl, n3⟩
 have q3 : Nw w w3 := q2.trans n3
 have p3 := p2.trans n3
 have x3 := Nw.box p3
 go_wp2_with fail
 all_goals try (go_ret; exact ⟨ret_bool (by unfold fitB1 fStr fLen; first | (simp_all; done) | (simp_all; omega)), q3⟩)
 refine (zz3 x.email _ _ (by exact Ty.Sl_loc (Nw.block q3) m.email)).mono ?_
 rintro e w4 ⟨rfl, n4⟩
 have q4 : Nw w w4 := q3.trans n4
 have p4 := p3.trans n4
 have x4 := Nw.box p4
 go_wp2_with fail
 all_goals try (go_ret; exact ⟨ret_bool (by unfold fitB1 fStr fLen; first | (simp_all; done) | (simp_all; omega)), q4⟩)
 refine (zz3 x.phone _ _ (by exact Ty.Sl_loc (Nw.block q4) m.phone)).mono ?_
 rintro e w5 ⟨rfl, n5⟩
 have q5 : Nw w w5 := q4.trans n5
 have p5 := p4.trans n5
 have x5 := Nw.box p5
 go_wp2_with fail
 all_goals try (go_ret; exact ⟨ret_bool (by unfold fitB1 fStr fLen; first | (simp_all; done) | (simp_all; omega)), q5⟩)
 refine (zz4 x.conn _ _ (by exact Ty.Sl_loc (Nw.block q5) m.conn)).mono ?_
 rintro e w6 ⟨rfl, n6⟩
 have q6 : Nw w w6 := q5.trans n6
 have p6 := p5.trans n6
 have x6 := Nw.box p6
 go_wp2_with fail
 all_goals try (go_ret; exact ⟨ret_bool (by unfold fitB1 fStr fLen; first | (simp_all; done) | (simp_all; omega)), q6⟩)
 refine (zz8 x.bws _ _ (by exact Ty.Sl_loc (Nw.block q6) m.bws)).mono ?_
 rintro e w7 ⟨rfl, n7⟩
 have q7 : Nw w w7 := q6.trans n7
 have p7 := p6.trans n7
 have x7 := Nw.box p7
 go_wp2_with fail
 all_goals try (go_ret; exact ⟨ret_bool (by unfold fitB1 fStr fLen; first | (simp_all; done) | (simp_all; omega)), q7⟩)
 refine (zz10 x.times _ _ (by exact Ty.Sl_loc (Nw.block q7) m.times)).mono ?_
 rintro e w8 ⟨rfl, n8⟩
 have q8 : Nw w w8 := q7.trans n8
 have p8 := p7.trans n8
 have x8 := Nw.box p8
 go_wp2_with fail
 all_goals try (go_ret; exact ⟨ret_bool (by unfold fitB1 fStr fLen; first | (simp_all; done) | (simp_all; omega)), q8⟩)
 refine (zz3 x.key _ _ (by exact Ty.Sl_loc (Nw.block q8) m.key)).mono ?_
 rintro e w9 ⟨rfl, n9⟩
 have q9 : Nw w w9 := q8.trans n9
 have p9 := p8.trans n9
 have x9 := Nw.box p9
 go_wp2_with fail
 all_goals try (go_ret; exact ⟨ret_bool (by unfold fitB1 fStr fLen; first | (simp_all; done) | (simp_all; omega)), q9⟩)
 refine (zz14 x.atts _ _ (by exact Ty.Sl_loc (Nw.block q9) m.atts)).mono ?_
 rintro e w10 ⟨rfl, n10⟩
 have q10 : Nw w w10 := q9.trans n10
 have p10 := p9.trans n10
 have x10 := Nw.box p10
 go_wp2_with fail
 all_goals try (go_ret; exact ⟨ret_bool (by unfold fitB1 fStr fLen; first | (simp_all; done) | (simp_all; omega)), q10⟩)
 refine (zz16 x.media _ _ (by exact Ty.Sl_loc (Nw.block q10) m.media)).mono ?_
 rintro e w11 ⟨rfl, n11⟩
 have q11 : Nw w w11 := q10.trans n11
 have p11 := p10.trans n11
 have x11 := Nw.box p11
 go_wp2_with fail
 all_goals (go_ret; exact ⟨ret_bool (by unfold fitB1 fStr fLen; first | (simp_all; done) | (simp_all; omega)), q11⟩)
end Go.Proofs.YtcepdjlknalmnaaGreatDoor

/- Laws of this claim. -/
import Derived.Test.YtcepdjlknalmnaaGreatDoorBase
set_option linter.unusedSimpArgs false
set_option linter.unusedVariables false
namespace Go.Proofs.YtcepdjlknalmnaaGreatDoor
open Tryz
open Lib (hid)
open Go.RowKit
theorem qAa {a b : Bool} (h : a = b) : Ending.returned (.bool a) = .returned (.bool b) := by rw [h]
def qDl (s : ByteArray) : Bool := decide (s.size <= 2147483647)
def qCs {α : Type} (xs : List α) : Bool := decide (xs.length <= 2147483647)
def fitB2 (x : Org) : Bool := qDl x.user && (qDl x.net && (qDl x.addr && qDl x.adr))
def qFl (xs : List ByteArray) : Bool := qCs xs && xs.all qDl
def qIy (x : Adr) : Bool := qDl x.addr && (qCs x.ttl && qCs x.rng)
def qKb (xs : List Adr) : Bool := qCs xs && xs.all qIy
def qH4 (x : Con) : Bool := qDl x.net && (qDl x.addr && qKb x.adrs)
def qHy (xs : List Con) : Bool := qCs xs && xs.all qH4
def qIz (x : Bwd) : Bool := qDl x.ty
def qHz (xs : List Bwd) : Bool := qCs xs && xs.all qIz
def qF9 (x : Rep) : Bool := qCs x.offs
def qHj (xs : List Rep) : Bool := qCs xs && xs.all qF9
def qFm (x : Tim) : Bool := qHj x.reps
def qHk (xs : List Tim) : Bool := qCs xs && xs.all qFm
def qGa (x : Att) : Bool := qDl x.key && qDl x.val
def qFg (xs : List Att) : Bool := qCs xs && xs.all qGa
def qC3 (x : Med) : Bool := qDl x.name && (qCs x.ports && (qFl x.protos && (qFl x.fmts && (qFl x.title && (qHy x.conn && (qHz x.bws && (qFl x.key && qFg x.atts)))))))
def qGr (xs : List Med) : Bool := qCs xs && xs.all qC3
def qDd (x : Ssn) : Bool := fitB2 x.org && (qDl x.name && (qFl x.info && (qFl x.uri && (qFl x.email && (qFl x.phone && (qHy x.conn && (qHz x.bws && (qHk x.times && (qCs x.zones && (qFl x.key && (qFg x.atts && qGr x.media)))))))))))
theorem qBm {α : Type} {xs : List α} {f : α -> Bool} {k : Nat} (h : k < xs.length) (ha : (xs.take k).all f = true) : (xs.take (k + 1)).all f = f xs[k] := by
 rw [List.take_succ_eq_append_getElem h, List.all_append, ha]
 simp
theorem qA6 {α : Type} {xs : List α} {f : α -> Bool} {k : Nat} (h : k < xs.length) (hf : f xs[k] = false) : xs.all f = false := by
 rw [List.all_eq_false]
 exact ⟨_, List.getElem_mem h, by simp [hf]⟩
theorem zz2 (x : Org) (w : World) :
 Calls prog 21 #[.agg #[.string x.user, .int .u64 x.id, .int .u64 x.ver, .string x.net, .string x.addr, .string x.adr]] w fun e w' => e = .returned (.bool (fitB2 x)) /\ Nw w w' := by
 go_enter func21, ntmps21
 go_wp2
 all_goals go_ret
 all_goals exact ⟨qAa (by unfold fitB2; unfold qDl; simp; omega), (Nw.refl _).alloc _⟩
theorem zz3 (xs : List ByteArray) (v : Value) (w : World) (h : qAd.Sl w xs v) :
 Calls prog 22 #[v] w fun e w' => e = .returned (.bool (qFl xs)) /\ Nw w w' := by
 obtain ⟨hm, h⟩ := h
 by_cases hl : (2147483647 : Int) < (xs.length : Int)
 · have HF : Hid (qFl xs = false) := hid (by unfold qFl qCs; simp; omega)
   rcases h with ⟨rfl, A, c, rfl, _⟩ | ⟨hp, b, o, c, rfl, hc, ha⟩
   · simp at hl
   go_enter func22, ntmps22
   go_wp2
   go_ret
   exact ⟨qAa HF.out.symm, Nw.refl _⟩
 have HF : Hid (qFl xs = xs.all qDl) := hid (by unfold qFl qCs; simp; omega)
 rcases h with ⟨rfl, A, c, rfl, _⟩ | ⟨hp, b, o, c, rfl, hc, ha⟩
 · go_enter func22, ntmps22
   go_wp2
   refine wp_loop_rounds 1 ?_
   rw [rounds_succ]
   go_wp2
   go_ret
   exact ⟨qAa rfl, Nw.refl _⟩
 go_enter func22, ntmps22
 go_wp2
 go_loopw [10] (fun i wr => ∃ k : Nat, k <= xs.length /\ i = .int .i64 k /\ Hid ((xs.take k).all qDl = true) /\ Nw w wr) (fun i _ => xs.length - (intOf i).toNat)
 case atStart => exact ⟨0, Nat.zero_le _, rfl, hid (by simp), Nw.refl _⟩
 obtain ⟨k, hk, rfl, hall, hnw⟩ := hrel
 by_cases hlt : k < xs.length
 · obtain ⟨cs, ⟨rfl, _⟩, hx⟩ := Ty.At_loc hnw.block ha k _ (List.getElem?_eq_getElem hlt)
   have c0 := hx 0 _ rfl
   simp only [qAd, qCn, Ty.flat, Nat.mul_one, Nat.add_zero] at c0
   have HT : Hid ((xs.take (k + 1)).all qDl = qDl xs[k]) := hid (qBm hlt hall.out)
   have HN : Hid (qDl xs[k] = false -> xs.all qDl = false) := hid (qA6 hlt)
   clear hx
   go_wp2
   · go_ret
     exact ⟨qAa (by rw [HF.out, HN.out (by unfold qDl; simp; omega)]), hnw⟩
   exact ⟨⟨k + 1, by omega, by go_num, hid (by rw [HT.out]; unfold qDl; simp; omega), hnw⟩, by simp [intOf]; omega⟩
 go_wp2
 go_ret
 exact ⟨qAa (by rw [HF.out, <- hall.out, List.take_of_length_le (by omega)]), hnw⟩
theorem zz7 (x : Adr) (v1 v2 : Value) (w : World) (h1 : tyI.Sl w x.ttl v1) (h2 : tyI.Sl w x.rng v2) :
 Calls prog 139 #[.agg #[.string x.addr, v1, v2]] w fun e w' => e = .returned (.bool (qIy x)) /\ Nw w w' := by
 obtain ⟨A, c, rfl⟩ := Ty.Sl_form h1
 obtain ⟨A', c', rfl⟩ := Ty.Sl_form h2
 go_enter func139, ntmps139
 go_wp2
 all_goals go_ret
 all_goals exact ⟨qAa (by unfold qIy; unfold qCs qDl; simp; omega), (Nw.refl _).alloc _⟩
theorem zz6 (xs : List Adr) (v : Value) (w : World) (h : qE2.Sl w xs v) :
 Calls prog 117 #[v] w fun e w' => e = .returned (.bool (qKb xs)) /\ Nw w w' := by
 obtain ⟨hm, h⟩ := h
 by_cases hl : (2147483647 : Int) < (xs.length : Int)
 · have HF : Hid (qKb xs = false) := hid (by unfold qKb qCs; simp; omega)
   rcases h with ⟨rfl, A, c, rfl, _⟩ | ⟨hp, b, o, c, rfl, hc, ha⟩
   · simp at hl
   go_enter func117, ntmps117
   go_wp2
   go_ret
   exact ⟨qAa HF.out.symm, Nw.refl _⟩
 have HF : Hid (qKb xs = xs.all qIy) := hid (by unfold qKb qCs; simp; omega)
 rcases h with ⟨rfl, A, c, rfl, _⟩ | ⟨hp, b, o, c, rfl, hc, ha⟩
 · go_enter func117, ntmps117
   go_wp2
   refine wp_loop_rounds 1 ?_
   rw [rounds_succ]
   go_wp2
   go_ret
   exact ⟨qAa rfl, Nw.refl _⟩
 go_enter func117, ntmps117
 go_wp2
 go_loopw [10] (fun i wr => ∃ k : Nat, k <= xs.length /\ i = .int .i64 k /\ Hid ((xs.take k).all qIy = true) /\ Nw w wr) (fun i _ => xs.length - (intOf i).toNat)
 case atStart => exact ⟨0, Nat.zero_le _, rfl, hid (by simp), Nw.refl _⟩
 obtain ⟨k, hk, rfl, hall, hnw⟩ := hrel
 by_cases hlt : k < xs.length
 · obtain ⟨cs, ⟨v1, v2, rfl, h0, h1, h2⟩, hx⟩ := Ty.At_loc hnw.block ha k _ (List.getElem?_eq_getElem hlt)
   obtain ⟨A0, n0, rfl⟩ := Ty.Sl_form h1
   obtain ⟨A1, n1, rfl⟩ := Ty.Sl_form h2
   have c0 := hx 0 _ rfl
   have c1 := hx 1 _ rfl
   have c2 := hx 2 _ rfl
   simp only [qE2, qCn, Ty.flat, Nat.mul_one, Nat.add_zero] at c0 c1 c2
   have HT : Hid ((xs.take (k + 1)).all qIy = qIy xs[k]) := hid (qBm hlt hall.out)
   have HN : Hid (qIy xs[k] = false -> xs.all qIy = false) := hid (qA6 hlt)
   clear hx
   go_wp2_with (go_at_call 139; refine (zz7 xs[k] _ _ _ (by exact Ty.Sl_loc ((Nw.refl wr).alloc _).block h1) (by exact Ty.Sl_loc ((Nw.refl wr).alloc _).block h2)).mono ?_; rintro e w1 ⟨rfl, hn1⟩)
   · go_ret
     exact ⟨qAa (by rw [HF.out, HN.out (by simp_all)]), (hnw.alloc _).trans hn1⟩
   exact ⟨⟨k + 1, by omega, by go_num, hid (by rw [HT.out]; simp_all), (hnw.alloc _).trans hn1⟩, by simp [intOf]; omega⟩
 go_wp2
 go_ret
 exact ⟨qAa (by rw [HF.out, <- hall.out, List.take_of_length_le (by omega)]), hnw⟩
theorem zz5 (x : Con) (v1 : Value) (w : World) (h1 : qE2.Sl w x.adrs v1) :
 Calls prog 57 #[.agg #[.string x.net, .string x.addr, v1]] w fun e w' => e = .returned (.bool (qH4 x)) /\ Nw w w' := by
 obtain ⟨A, c, rfl⟩ := Ty.Sl_form h1
 go_enter func57, ntmps57
 go_wp2_with (first | (go_at_call 117; refine (zz6 x.adrs _ _ (by exact Ty.Sl_loc ((Nw.refl w).alloc _).block h1)).mono ?_; rintro e w1 ⟨rfl, hn1⟩))
 all_goals go_ret
 all_goals exact ⟨qAa (by unfold qH4; unfold qDl; (first | (simp; omega) | (simp_all; omega) | simp_all)), by first | exact (Nw.refl _).alloc _ | exact ((Nw.refl _).alloc _).trans (by assumption)⟩
theorem zz4 (xs : List Con) (v : Value) (w : World) (h : qC0.Sl w xs v) :
 Calls prog 23 #[v] w fun e w' => e = .returned (.bool (qHy xs)) /\ Nw w w' := by
 obtain ⟨hm, h⟩ := h
 by_cases hl : (2147483647 : Int) < (xs.length : Int)
 · have HF : Hid (qHy xs = false) := hid (by unfold qHy qCs; simp; omega)
   rcases h with ⟨rfl, A, c, rfl, _⟩ | ⟨hp, b, o, c, rfl, hc, ha⟩
   · simp at hl
   go_enter func23, ntmps23
   go_wp2
   go_ret
   exact ⟨qAa HF.out.symm, Nw.refl _⟩
 have HF : Hid (qHy xs = xs.all qH4) := hid (by unfold qHy qCs; simp; omega)
 rcases h with ⟨rfl, A, c, rfl, _⟩ | ⟨hp, b, o, c, rfl, hc, ha⟩
 · go_enter func23, ntmps23
   go_wp2
   refine wp_loop_rounds 1 ?_
   rw [rounds_succ]
   go_wp2
   go_ret
   exact ⟨qAa rfl, Nw.refl _⟩
 go_enter func23, ntmps23
 go_wp2
 go_loopw [10] (fun i wr => ∃ k : Nat, k <= xs.length /\ i = .int .i64 k /\ Hid ((xs.take k).all qH4 = true) /\ Nw w wr) (fun i _ => xs.length - (intOf i).toNat)
 case atStart => exact ⟨0, Nat.zero_le _, rfl, hid (by simp), Nw.refl _⟩
 obtain ⟨k, hk, rfl, hall, hnw⟩ := hrel
 by_cases hlt : k < xs.length
 · obtain ⟨cs, ⟨v1, rfl, h0, h0', h1⟩, hx⟩ := Ty.At_loc hnw.block ha k _ (List.getElem?_eq_getElem hlt)
   obtain ⟨A0, n0, rfl⟩ := Ty.Sl_form h1
   have c0 := hx 0 _ rfl
   have c1 := hx 1 _ rfl
   have c2 := hx 2 _ rfl
   simp only [qC0, qCn, Ty.flat, Nat.mul_one, Nat.add_zero] at c0 c1 c2
   have HT : Hid ((xs.take (k + 1)).all qH4 = qH4 xs[k]) := hid (qBm hlt hall.out)
   have HN : Hid (qH4 xs[k] = false -> xs.all qH4 = false) := hid (qA6 hlt)
   clear hx
   go_wp2_with (go_at_call 57; refine (zz5 xs[k] _ _ (by exact Ty.Sl_loc ((Nw.refl wr).alloc _).block h1)).mono ?_; rintro e w1 ⟨rfl, hn1⟩)
   · go_ret
     exact ⟨qAa (by rw [HF.out, HN.out (by simp_all)]), (hnw.alloc _).trans hn1⟩
   exact ⟨⟨k + 1, by omega, by go_num, hid (by rw [HT.out]; simp_all), (hnw.alloc _).trans hn1⟩, by simp [intOf]; omega⟩
 go_wp2
 go_ret
 exact ⟨qAa (by rw [HF.out, <- hall.out, List.take_of_length_le (by omega)]), hnw⟩
theorem zz9 (x : Bwd) (w : World) :
 Calls prog 58 #[.agg #[.bool x.x, .string x.ty, .int .u64 x.n]] w fun e w' => e = .returned (.bool (qIz x)) /\ Nw w w' := by
 go_enter func58, ntmps58
 go_wp2
 all_goals go_ret
 all_goals exact ⟨qAa (by unfold qIz; unfold qDl; simp; omega), (Nw.refl _).alloc _⟩
theorem zz8 (xs : List Bwd) (v : Value) (w : World) (h : qBx.Sl w xs v) :
 Calls prog 24 #[v] w fun e w' => e = .returned (.bool (qHz xs)) /\ Nw w w' := by
 obtain ⟨hm, h⟩ := h
 by_cases hl : (2147483647 : Int) < (xs.length : Int)
 · have HF : Hid (qHz xs = false) := hid (by unfold qHz qCs; simp; omega)
   rcases h with ⟨rfl, A, c, rfl, _⟩ | ⟨hp, b, o, c, rfl, hc, ha⟩
   · simp at hl
   go_enter func24, ntmps24
   go_wp2
   go_ret
   exact ⟨qAa HF.out.symm, Nw.refl _⟩
 have HF : Hid (qHz xs = xs.all qIz) := hid (by unfold qHz qCs; simp; omega)
 rcases h with ⟨rfl, A, c, rfl, _⟩ | ⟨hp, b, o, c, rfl, hc, ha⟩
 · go_enter func24, ntmps24
   go_wp2
   refine wp_loop_rounds 1 ?_
   rw [rounds_succ]
   go_wp2
   go_ret
   exact ⟨qAa rfl, Nw.refl _⟩
 go_enter func24, ntmps24
 go_wp2
 go_loopw [10] (fun i wr => ∃ k : Nat, k <= xs.length /\ i = .int .i64 k /\ Hid ((xs.take k).all qIz = true) /\ Nw w wr) (fun i _ => xs.length - (intOf i).toNat)
 case atStart => exact ⟨0, Nat.zero_le _, rfl, hid (by simp), Nw.refl _⟩
 obtain ⟨k, hk, rfl, hall, hnw⟩ := hrel
 by_cases hlt : k < xs.length
 · obtain ⟨cs, ⟨rfl, _⟩, hx⟩ := Ty.At_loc hnw.block ha k _ (List.getElem?_eq_getElem hlt)
   have c0 := hx 0 _ rfl
   have c1 := hx 1 _ rfl
   have c2 := hx 2 _ rfl
   simp only [qBx, qCn, Ty.flat, Nat.mul_one, Nat.add_zero] at c0 c1 c2
   have HT : Hid ((xs.take (k + 1)).all qIz = qIz xs[k]) := hid (qBm hlt hall.out)
   have HN : Hid (qIz xs[k] = false -> xs.all qIz = false) := hid (qA6 hlt)
   clear hx
   go_wp2_with (go_at_call 58; refine (zz9 xs[k] _).mono ?_; rintro e w1 ⟨rfl, hn1⟩)
   · go_ret
     exact ⟨qAa (by rw [HF.out, HN.out (by simp_all)]), (hnw.alloc _).trans hn1⟩
   exact ⟨⟨k + 1, by omega, by go_num, hid (by rw [HT.out]; simp_all), (hnw.alloc _).trans hn1⟩, by simp [intOf]; omega⟩
 go_wp2
 go_ret
 exact ⟨qAa (by rw [HF.out, <- hall.out, List.take_of_length_le (by omega)]), hnw⟩
theorem zz13 (x : Rep) (v1 : Value) (w : World) (h1 : tyI.Sl w x.offs v1) :
 Calls prog 140 #[.agg #[.int .i64 x.ivl, .int .i64 x.dur, v1]] w fun e w' => e = .returned (.bool (qF9 x)) /\ Nw w w' := by
 obtain ⟨A, c, rfl⟩ := Ty.Sl_form h1
 go_enter func140, ntmps140
 go_wp2
 all_goals go_ret
 all_goals exact ⟨qAa (by unfold qF9; unfold qCs; simp; omega), (Nw.refl _).alloc _⟩
theorem zz12 (xs : List Rep) (v : Value) (w : World) (h : qDc.Sl w xs v) :
 Calls prog 118 #[v] w fun e w' => e = .returned (.bool (qHj xs)) /\ Nw w w' := by
 obtain ⟨hm, h⟩ := h
 by_cases hl : (2147483647 : Int) < (xs.length : Int)
 · have HF : Hid (qHj xs = false) := hid (by unfold qHj qCs; simp; omega)
   rcases h with ⟨rfl, A, c, rfl, _⟩ | ⟨hp, b, o, c, rfl, hc, ha⟩
   · simp at hl
   go_enter func118, ntmps118
   go_wp2
   go_ret
   exact ⟨qAa HF.out.symm, Nw.refl _⟩
 have HF : Hid (qHj xs = xs.all qF9) := hid (by unfold qHj qCs; simp; omega)
 rcases h with ⟨rfl, A, c, rfl, _⟩ | ⟨hp, b, o, c, rfl, hc, ha⟩
 · go_enter func118, ntmps118
   go_wp2
   refine wp_loop_rounds 1 ?_
   rw [rounds_succ]
   go_wp2
   go_ret
   exact ⟨qAa rfl, Nw.refl _⟩
 go_enter func118, ntmps118
 go_wp2
 go_loopw [10] (fun i wr => ∃ k : Nat, k <= xs.length /\ i = .int .i64 k /\ Hid ((xs.take k).all qF9 = true) /\ Nw w wr) (fun i _ => xs.length - (intOf i).toNat)
 case atStart => exact ⟨0, Nat.zero_le _, rfl, hid (by simp), Nw.refl _⟩
 obtain ⟨k, hk, rfl, hall, hnw⟩ := hrel
 by_cases hlt : k < xs.length
 · obtain ⟨cs, ⟨v1, rfl, h0, h0', h1⟩, hx⟩ := Ty.At_loc hnw.block ha k _ (List.getElem?_eq_getElem hlt)
   obtain ⟨A0, n0, rfl⟩ := Ty.Sl_form h1
   have c0 := hx 0 _ rfl
   have c1 := hx 1 _ rfl
   have c2 := hx 2 _ rfl
   simp only [qDc, qCn, Ty.flat, Nat.mul_one, Nat.add_zero] at c0 c1 c2
   have HT : Hid ((xs.take (k + 1)).all qF9 = qF9 xs[k]) := hid (qBm hlt hall.out)
   have HN : Hid (qF9 xs[k] = false -> xs.all qF9 = false) := hid (qA6 hlt)
   clear hx
   go_wp2_with (go_at_call 140; refine (zz13 xs[k] _ _ (by exact Ty.Sl_loc ((Nw.refl wr).alloc _).block h1)).mono ?_; rintro e w1 ⟨rfl, hn1⟩)
   · go_ret
     exact ⟨qAa (by rw [HF.out, HN.out (by simp_all)]), (hnw.alloc _).trans hn1⟩
   exact ⟨⟨k + 1, by omega, by go_num, hid (by rw [HT.out]; simp_all), (hnw.alloc _).trans hn1⟩, by simp [intOf]; omega⟩
 go_wp2
 go_ret
 exact ⟨qAa (by rw [HF.out, <- hall.out, List.take_of_length_le (by omega)]), hnw⟩
theorem zz11 (x : Tim) (v1 : Value) (w : World) (h1 : qDc.Sl w x.reps v1) :
 Calls prog 59 #[.agg #[.int .u64 x.start, .int .u64 x.stop, v1]] w fun e w' => e = .returned (.bool (qFm x)) /\ Nw w w' := by
 obtain ⟨A, c, rfl⟩ := Ty.Sl_form h1
 go_enter func59, ntmps59
 go_wp2_with (first | (go_at_call 118; refine (zz12 x.reps _ _ (by exact Ty.Sl_loc ((Nw.refl w).alloc _).block h1)).mono ?_; rintro e w1 ⟨rfl, hn1⟩))
 all_goals go_ret
 all_goals exact ⟨qAa (by unfold qFm; simp_all), by first | exact (Nw.refl _).alloc _ | exact ((Nw.refl _).alloc _).trans (by assumption)⟩
theorem zz10 (xs : List Tim) (v : Value) (w : World) (h : qCc.Sl w xs v) :
 Calls prog 25 #[v] w fun e w' => e = .returned (.bool (qHk xs)) /\ Nw w w' := by
 obtain ⟨hm, h⟩ := h
 by_cases hl : (2147483647 : Int) < (xs.length : Int)
 · have HF : Hid (qHk xs = false) := hid (by unfold qHk qCs; simp; omega)
   rcases h with ⟨rfl, A, c, rfl, _⟩ | ⟨hp, b, o, c, rfl, hc, ha⟩
   · simp at hl
   go_enter func25, ntmps25
   go_wp2
   go_ret
   exact ⟨qAa HF.out.symm, Nw.refl _⟩
 have HF : Hid (qHk xs = xs.all qFm) := hid (by unfold qHk qCs; simp; omega)
 rcases h with ⟨rfl, A, c, rfl, _⟩ | ⟨hp, b, o, c, rfl, hc, ha⟩
 · go_enter func25, ntmps25
   go_wp2
   refine wp_loop_rounds 1 ?_
   rw [rounds_succ]
   go_wp2
   go_ret
   exact ⟨qAa rfl, Nw.refl _⟩
 go_enter func25, ntmps25
 go_wp2
 go_loopw [10] (fun i wr => ∃ k : Nat, k <= xs.length /\ i = .int .i64 k /\ Hid ((xs.take k).all qFm = true) /\ Nw w wr) (fun i _ => xs.length - (intOf i).toNat)
 case atStart => exact ⟨0, Nat.zero_le _, rfl, hid (by simp), Nw.refl _⟩
 obtain ⟨k, hk, rfl, hall, hnw⟩ := hrel
 by_cases hlt : k < xs.length
 · obtain ⟨cs, ⟨v1, rfl, h0, h0', h1⟩, hx⟩ := Ty.At_loc hnw.block ha k _ (List.getElem?_eq_getElem hlt)
   obtain ⟨A0, n0, rfl⟩ := Ty.Sl_form h1
   have c0 := hx 0 _ rfl
   have c1 := hx 1 _ rfl
   have c2 := hx 2 _ rfl
   simp only [qCc, qCn, Ty.flat, Nat.mul_one, Nat.add_zero] at c0 c1 c2
   have HT : Hid ((xs.take (k + 1)).all qFm = qFm xs[k]) := hid (qBm hlt hall.out)
   have HN : Hid (qFm xs[k] = false -> xs.all qFm = false) := hid (qA6 hlt)
   clear hx
   go_wp2_with (go_at_call 59; refine (zz11 xs[k] _ _ (by exact Ty.Sl_loc ((Nw.refl wr).alloc _).block h1)).mono ?_; rintro e w1 ⟨rfl, hn1⟩)
   · go_ret
     exact ⟨qAa (by rw [HF.out, HN.out (by simp_all)]), (hnw.alloc _).trans hn1⟩
   exact ⟨⟨k + 1, by omega, by go_num, hid (by rw [HT.out]; simp_all), (hnw.alloc _).trans hn1⟩, by simp [intOf]; omega⟩
 go_wp2
 go_ret
 exact ⟨qAa (by rw [HF.out, <- hall.out, List.take_of_length_le (by omega)]), hnw⟩
theorem zz15 (x : Att) (w : World) :
 Calls prog 60 #[.agg #[.string x.key, .string x.val]] w fun e w' => e = .returned (.bool (qGa x)) /\ Nw w w' := by
 go_enter func60, ntmps60
 go_wp2
 all_goals go_ret
 all_goals exact ⟨qAa (by unfold qGa; unfold qDl; simp; omega), (Nw.refl _).alloc _⟩
theorem zz14 (xs : List Att) (v : Value) (w : World) (h : qBy.Sl w xs v) :
 Calls prog 26 #[v] w fun e w' => e = .returned (.bool (qFg xs)) /\ Nw w w' := by
 obtain ⟨hm, h⟩ := h
 by_cases hl : (2147483647 : Int) < (xs.length : Int)
 · have HF : Hid (qFg xs = false) := hid (by unfold qFg qCs; simp; omega)
   rcases h with ⟨rfl, A, c, rfl, _⟩ | ⟨hp, b, o, c, rfl, hc, ha⟩
   · simp at hl
   go_enter func26, ntmps26
   go_wp2
   go_ret
   exact ⟨qAa HF.out.symm, Nw.refl _⟩
 have HF : Hid (qFg xs = xs.all qGa) := hid (by unfold qFg qCs; simp; omega)
 rcases h with ⟨rfl, A, c, rfl, _⟩ | ⟨hp, b, o, c, rfl, hc, ha⟩
 · go_enter func26, ntmps26
   go_wp2
   refine wp_loop_rounds 1 ?_
   rw [rounds_succ]
   go_wp2
   go_ret
   exact ⟨qAa rfl, Nw.refl _⟩
 go_enter func26, ntmps26
 go_wp2
 go_loopw [10] (fun i wr => ∃ k : Nat, k <= xs.length /\ i = .int .i64 k /\ Hid ((xs.take k).all qGa = true) /\ Nw w wr) (fun i _ => xs.length - (intOf i).toNat)
 case atStart => exact ⟨0, Nat.zero_le _, rfl, hid (by simp), Nw.refl _⟩
 obtain ⟨k, hk, rfl, hall, hnw⟩ := hrel
 by_cases hlt : k < xs.length
 · obtain ⟨cs, ⟨rfl, _⟩, hx⟩ := Ty.At_loc hnw.block ha k _ (List.getElem?_eq_getElem hlt)
   have c0 := hx 0 _ rfl
   have c1 := hx 1 _ rfl
   simp only [qBy, qCn, Ty.flat, Nat.mul_one, Nat.add_zero] at c0 c1
   have HT : Hid ((xs.take (k + 1)).all qGa = qGa xs[k]) := hid (qBm hlt hall.out)
   have HN : Hid (qGa xs[k] = false -> xs.all qGa = false) := hid (qA6 hlt)
   clear hx
   go_wp2_with (go_at_call 60; refine (zz15 xs[k] _).mono ?_; rintro e w1 ⟨rfl, hn1⟩)
   · go_ret
     exact ⟨qAa (by rw [HF.out, HN.out (by simp_all)]), (hnw.alloc _).trans hn1⟩
   exact ⟨⟨k + 1, by omega, by go_num, hid (by rw [HT.out]; simp_all), (hnw.alloc _).trans hn1⟩, by simp [intOf]; omega⟩
 go_wp2
 go_ret
 exact ⟨qAa (by rw [HF.out, <- hall.out, List.take_of_length_le (by omega)]), hnw⟩
theorem zz17 (x : Med) (v0 v1 v2 v3 v4 v5 v6 v7 : Value) (w : World) (m : MedAt w x v0 v1 v2 v3 v4 v5 v6 v7) :
 Calls prog 61 #[.agg #[.string x.name, .int .i64 x.port, v0, v1, v2, v3, v4, v5, v6, v7]] w fun e w' => e = .returned (.bool (qC3 x)) /\ Nw w w' := by
 obtain ⟨A0, c0, rfl⟩ := Ty.Sl_form m.ports
 obtain ⟨A1, c1, rfl⟩ := Ty.Sl_form m.protos
 obtain ⟨A2, c2, rfl⟩ := Ty.Sl_form m.fmts
 obtain ⟨A3, c3, rfl⟩ := Ty.Sl_form m.title
 obtain ⟨A4, c4, rfl⟩ := Ty.Sl_form m.conn
 obtain ⟨A5, c5, rfl⟩ := Ty.Sl_form m.bws
 obtain ⟨A6, c6, rfl⟩ := Ty.Sl_form m.key
 obtain ⟨A7, c7, rfl⟩ := Ty.Sl_form m.atts
 have q0 : Nw w (w.alloc (.cells #[.string x.name, .int .i64 x.port, .slice A0 x.ports.length c0, .slice A1 x.protos.length c1, .slice A2 x.fmts.length c2, .slice A3 x.title.length c3, .slice A4 x.conn.length c4, .slice A5 x.bws.length c5, .slice A6 x.key.length c6, .slice A7 x.atts.length c7] 84)) := (Nw.refl w).alloc _
 have p0 := Nw.refl (w.alloc (.cells #[.string x.name, .int .i64 x.port, .slice A0 x.ports.length c0, .slice A1 x.protos.length c1, .slice A2 x.fmts.length c2, .slice A3 x.title.length c3, .slice A4 x.conn.length c4, .slice A5 x.bws.length c5, .slice A6 x.key.length c6, .slice A7 x.atts.length c7] 84))
 go_enter func61, ntmps61
 go_wp2_with fail
 all_goals try (go_ret; exact ⟨qAa (by unfold qC3 qDl qCs; simp; omega), q0⟩)
 refine (zz3 x.protos _ _ (by exact Ty.Sl_loc (Nw.block q0) m.protos)).mono ?_
 rintro e w1 ⟨rfl, n1⟩
 have q1 : Nw w w1 := q0.trans n1
 have p1 := p0.trans n1
 have x1 := Nw.box p1
 go_wp2_with fail
 all_goals try (go_ret; exact ⟨qAa (by unfold qC3 qDl qCs; first | (simp_all; done) | (simp_all; omega)), q1⟩)
 refine (zz3 x.fmts _ _ (by exact Ty.Sl_loc (Nw.block q1) m.fmts)).mono ?_
 rintro e w2 ⟨rfl, n2⟩
 have q2 : Nw w w2 := q1.trans n2
 have p2 := p1.trans n2
 have x2 := Nw.box p2
 go_wp2_with fail
 all_goals try (go_ret; exact ⟨qAa (by unfold qC3 qDl qCs; first | (simp_all; done) | (simp_all; omega)), q2⟩)
 refine (zz3 x.title _ _ (by exact Ty.Sl_loc (Nw.block q2) m.title)).mono ?_
 rintro e w3 ⟨rfl, n3⟩
 have q3 : Nw w w3 := q2.trans n3
 have p3 := p2.trans n3
 have x3 := Nw.box p3
 go_wp2_with fail
 all_goals try (go_ret; exact ⟨qAa (by unfold qC3 qDl qCs; first | (simp_all; done) | (simp_all; omega)), q3⟩)
 refine (zz4 x.conn _ _ (by exact Ty.Sl_loc (Nw.block q3) m.conn)).mono ?_
 rintro e w4 ⟨rfl, n4⟩
 have q4 : Nw w w4 := q3.trans n4
 have p4 := p3.trans n4
 have x4 := Nw.box p4
 go_wp2_with fail
 all_goals try (go_ret; exact ⟨qAa (by unfold qC3 qDl qCs; first | (simp_all; done) | (simp_all; omega)), q4⟩)
 refine (zz8 x.bws _ _ (by exact Ty.Sl_loc (Nw.block q4) m.bws)).mono ?_
 rintro e w5 ⟨rfl, n5⟩
 have q5 : Nw w w5 := q4.trans n5
 have p5 := p4.trans n5
 have x5 := Nw.box p5
 go_wp2_with fail
 all_goals try (go_ret; exact ⟨qAa (by unfold qC3 qDl qCs; first | (simp_all; done) | (simp_all; omega)), q5⟩)
 refine (zz3 x.key _ _ (by exact Ty.Sl_loc (Nw.block q5) m.key)).mono ?_
 rintro e w6 ⟨rfl, n6⟩
 have q6 : Nw w w6 := q5.trans n6
 have p6 := p5.trans n6
 have x6 := Nw.box p6
 go_wp2_with fail
 all_goals try (go_ret; exact ⟨qAa (by unfold qC3 qDl qCs; first | (simp_all; done) | (simp_all; omega)), q6⟩)
 refine (zz14 x.atts _ _ (by exact Ty.Sl_loc (Nw.block q6) m.atts)).mono ?_
 rintro e w7 ⟨rfl, n7⟩
 have q7 : Nw w w7 := q6.trans n7
 have p7 := p6.trans n7
 have x7 := Nw.box p7
 go_wp2_with fail
 all_goals (go_ret; exact ⟨qAa (by unfold qC3 qDl qCs; first | (simp_all; done) | (simp_all; omega)), q7⟩)
theorem qLp {w : World} {x : Med} {b o : Nat} {v0 v1 v2 v3 v4 v5 v6 v7 : Value} (h : ∀ (j : Nat) u, [Value.string x.name, .int .i64 x.port, v0, v1, v2, v3, v4, v5, v6, v7][j]? = some u -> w.cell? ⟨b, o + j, none⟩ = some u) :
 w.cell? ⟨b, o, none⟩ = some (.string x.name) /\ w.cell? ⟨b, o + 1, none⟩ = some (.int .i64 x.port) /\ w.cell? ⟨b, o + 2, none⟩ = some v0 /\ w.cell? ⟨b, o + 3, none⟩ = some v1 /\ w.cell? ⟨b, o + 4, none⟩ = some v2 /\ w.cell? ⟨b, o + 5, none⟩ = some v3 /\ w.cell? ⟨b, o + 6, none⟩ = some v4 /\ w.cell? ⟨b, o + 7, none⟩ = some v5 /\ w.cell? ⟨b, o + 8, none⟩ = some v6 /\ w.cell? ⟨b, o + 9, none⟩ = some v7 :=
 ⟨h 0 _ rfl, h 1 _ rfl, h 2 _ rfl, h 3 _ rfl, h 4 _ rfl, h 5 _ rfl, h 6 _ rfl, h 7 _ rfl, h 8 _ rfl, h 9 _ rfl⟩
theorem zz16 (xs : List Med) (v : Value) (w : World) (h : qEj.Sl w xs v) :
 Calls prog 27 #[v] w fun e w' => e = .returned (.bool (qGr xs)) /\ Nw w w' := by
 obtain ⟨hm, h⟩ := h
 by_cases hl : (2147483647 : Int) < (xs.length : Int)
 · have HF : Hid (qGr xs = false) := hid (by unfold qGr qCs; simp; omega)
   rcases h with ⟨rfl, A, c, rfl, _⟩ | ⟨hp, b, o, c, rfl, hc, ha⟩
   · simp at hl
   go_enter func27, ntmps27
   go_wp2
   go_ret
   exact ⟨qAa HF.out.symm, Nw.refl _⟩
 have HF : Hid (qGr xs = xs.all qC3) := hid (by unfold qGr qCs; simp; omega)
 rcases h with ⟨rfl, A, c, rfl, _⟩ | ⟨hp, b, o, c, rfl, hc, ha⟩
 · go_enter func27, ntmps27
   go_wp2
   refine wp_loop_rounds 1 ?_
   rw [rounds_succ]
   go_wp2
   go_ret
   exact ⟨qAa rfl, Nw.refl _⟩
 go_enter func27, ntmps27
 go_wp2
 go_loopw [10] (fun i wr => ∃ k : Nat, k <= xs.length /\ i = .int .i64 k /\ Hid ((xs.take k).all qC3 = true) /\ Nw w wr) (fun i _ => xs.length - (intOf i).toNat)
 case atStart => exact ⟨0, Nat.zero_le _, rfl, hid (by simp), Nw.refl _⟩
 obtain ⟨k, hk, rfl, hall, hnw⟩ := hrel
 by_cases hlt : k < xs.length
 · obtain ⟨cs, ⟨v0, v1, v2, v3, v4, v5, v6, v7, rfl, m⟩, hx⟩ := Ty.At_loc hnw.block ha k _ (List.getElem?_eq_getElem hlt)
   obtain ⟨A0, n0, rfl⟩ := Ty.Sl_form m.ports
   obtain ⟨A1, n1, rfl⟩ := Ty.Sl_form m.protos
   obtain ⟨A2, n2, rfl⟩ := Ty.Sl_form m.fmts
   obtain ⟨A3, n3, rfl⟩ := Ty.Sl_form m.title
   obtain ⟨A4, n4, rfl⟩ := Ty.Sl_form m.conn
   obtain ⟨A5, n5, rfl⟩ := Ty.Sl_form m.bws
   obtain ⟨A6, n6, rfl⟩ := Ty.Sl_form m.key
   obtain ⟨A7, n7, rfl⟩ := Ty.Sl_form m.atts
   have c0 := hx 0 _ rfl
   have c1 := hx 1 _ rfl
   have c2 := hx 2 _ rfl
   have c3 := hx 3 _ rfl
   have c4 := hx 4 _ rfl
   have c5 := hx 5 _ rfl
   have c6 := hx 6 _ rfl
   have c7 := hx 7 _ rfl
   have c8 := hx 8 _ rfl
   have c9 := hx 9 _ rfl
   simp only [qEj, qCn, Ty.flat, Nat.mul_one, Nat.add_zero] at c0 c1 c2 c3 c4 c5 c6 c7 c8 c9
   have HT : Hid ((xs.take (k + 1)).all qC3 = qC3 xs[k]) := hid (qBm hlt hall.out)
   have HN : Hid (qC3 xs[k] = false -> xs.all qC3 = false) := hid (qA6 hlt)
   clear hx
   go_wp2_with (go_at_call 61; refine (zz17 xs[k] _ _ _ _ _ _ _ _ _ (by exact m.loc ((Nw.refl wr).alloc _).block)).mono ?_; rintro e w1 ⟨rfl, hn1⟩)
   · go_ret
     exact ⟨qAa (by rw [HF.out, HN.out (by simp_all)]), (hnw.alloc _).trans hn1⟩
   exact ⟨⟨k + 1, by omega, by go_num, hid (by rw [HT.out]; simp_all), (hnw.alloc _).trans hn1⟩, by simp [intOf]; omega⟩
 go_wp2
 go_ret
 exact ⟨qAa (by rw [HF.out, <- hall.out, List.take_of_length_le (by omega)]), hnw⟩
theorem zz1 (x : Ssn) (v0 v1 v2 v3 v4 v5 v6 v7 v8 v9 v10 : Value) (w : World) (m : SsnAt w x v0 v1 v2 v3 v4 v5 v6 v7 v8 v9 v10) :
 Calls prog 8 #[qBv x v0 v1 v2 v3 v4 v5 v6 v7 v8 v9 v10] w fun e w' => e = .returned (.bool (qDd x)) /\ Nw w w' := by
 obtain ⟨A0, c0, rfl⟩ := Ty.Sl_form m.info
 obtain ⟨A1, c1, rfl⟩ := Ty.Sl_form m.uri
 obtain ⟨A2, c2, rfl⟩ := Ty.Sl_form m.email
 obtain ⟨A3, c3, rfl⟩ := Ty.Sl_form m.phone
 obtain ⟨A4, c4, rfl⟩ := Ty.Sl_form m.conn
 obtain ⟨A5, c5, rfl⟩ := Ty.Sl_form m.bws
 obtain ⟨A6, c6, rfl⟩ := Ty.Sl_form m.times
 obtain ⟨A7, c7, rfl⟩ := Ty.Sl_form m.zones
 obtain ⟨A8, c8, rfl⟩ := Ty.Sl_form m.key
 obtain ⟨A9, c9, rfl⟩ := Ty.Sl_form m.atts
 obtain ⟨A10, c10, rfl⟩ := Ty.Sl_form m.media
 have q0 : Nw w (w.alloc (.cells #[.int .i64 x.ver, .string x.org.user, .int .u64 x.org.id, .int .u64 x.org.ver, .string x.org.net, .string x.org.addr, .string x.org.adr, .string x.name, .slice A0 x.info.length c0, .slice A1 x.uri.length c1, .slice A2 x.email.length c2, .slice A3 x.phone.length c3, .slice A4 x.conn.length c4, .slice A5 x.bws.length c5, .slice A6 x.times.length c6, .slice A7 x.zones.length c7, .slice A8 x.key.length c8, .slice A9 x.atts.length c9, .slice A10 x.media.length c10] 33)) := (Nw.refl w).alloc _
 have p0 := Nw.refl (w.alloc (.cells #[.int .i64 x.ver, .string x.org.user, .int .u64 x.org.id, .int .u64 x.org.ver, .string x.org.net, .string x.org.addr, .string x.org.adr, .string x.name, .slice A0 x.info.length c0, .slice A1 x.uri.length c1, .slice A2 x.email.length c2, .slice A3 x.phone.length c3, .slice A4 x.conn.length c4, .slice A5 x.bws.length c5, .slice A6 x.times.length c6, .slice A7 x.zones.length c7, .slice A8 x.key.length c8, .slice A9 x.atts.length c9, .slice A10 x.media.length c10] 33))
 unfold qBv
 go_enter func8, ntmps8
 go_wp2_with fail
 all_goals try (go_ret; exact ⟨qAa (by unfold qDd qDl qCs; simp; omega), q0⟩)
 refine (zz2 x.org _).mono ?_
 rintro e w1 ⟨rfl, n1⟩
 have q1 : Nw w w1 := q0.trans n1
 have p1 := p0.trans n1
 have x1 := Nw.box p1
 go_wp2_with fail
 all_goals try (go_ret; exact ⟨qAa (by unfold qDd qDl qCs; first | (simp_all; done) | (simp_all; omega)), q1⟩)
 refine (zz3 x.info _ _ (by exact Ty.Sl_loc (Nw.block q1) m.info)).mono ?_
 rintro e w2 ⟨rfl, n2⟩
 have q2 : Nw w w2 := q1.trans n2
 have p2 := p1.trans n2
 have x2 := Nw.box p2
 go_wp2_with fail
 all_goals try (go_ret; exact ⟨qAa (by unfold qDd qDl qCs; first | (simp_all; done) | (simp_all; omega)), q2⟩)
 refine (zz3 x.uri _ _ (by exact Ty.Sl_loc (Nw.block q2) m.uri)).mono ?_
 rintro e w3 ⟨rfl, n3⟩
 have q3 : Nw w w3 := q2.trans n3
 have p3 := p2.trans n3
 have x3 := Nw.box p3
 go_wp2_with fail
 all_goals try (go_ret; exact ⟨qAa (by unfold qDd qDl qCs; first | (simp_all; done) | (simp_all; omega)), q3⟩)
 refine (zz3 x.email _ _ (by exact Ty.Sl_loc (Nw.block q3) m.email)).mono ?_
 rintro e w4 ⟨rfl, n4⟩
 have q4 : Nw w w4 := q3.trans n4
 have p4 := p3.trans n4
 have x4 := Nw.box p4
 go_wp2_with fail
 all_goals try (go_ret; exact ⟨qAa (by unfold qDd qDl qCs; first | (simp_all; done) | (simp_all; omega)), q4⟩)
 refine (zz3 x.phone _ _ (by exact Ty.Sl_loc (Nw.block q4) m.phone)).mono ?_
 rintro e w5 ⟨rfl, n5⟩
 have q5 : Nw w w5 := q4.trans n5
 have p5 := p4.trans n5
 have x5 := Nw.box p5
 go_wp2_with fail
 all_goals try (go_ret; exact ⟨qAa (by unfold qDd qDl qCs; first | (simp_all; done) | (simp_all; omega)), q5⟩)
 refine (zz4 x.conn _ _ (by exact Ty.Sl_loc (Nw.block q5) m.conn)).mono ?_
 rintro e w6 ⟨rfl, n6⟩
 have q6 : Nw w w6 := q5.trans n6
 have p6 := p5.trans n6
 have x6 := Nw.box p6
 go_wp2_with fail
 all_goals try (go_ret; exact ⟨qAa (by unfold qDd qDl qCs; first | (simp_all; done) | (simp_all; omega)), q6⟩)
 refine (zz8 x.bws _ _ (by exact Ty.Sl_loc (Nw.block q6) m.bws)).mono ?_
 rintro e w7 ⟨rfl, n7⟩
 have q7 : Nw w w7 := q6.trans n7
 have p7 := p6.trans n7
 have x7 := Nw.box p7
 go_wp2_with fail
 all_goals try (go_ret; exact ⟨qAa (by unfold qDd qDl qCs; first | (simp_all; done) | (simp_all; omega)), q7⟩)
 refine (zz10 x.times _ _ (by exact Ty.Sl_loc (Nw.block q7) m.times)).mono ?_
 rintro e w8 ⟨rfl, n8⟩
 have q8 : Nw w w8 := q7.trans n8
 have p8 := p7.trans n8
 have x8 := Nw.box p8
 go_wp2_with fail
 all_goals try (go_ret; exact ⟨qAa (by unfold qDd qDl qCs; first | (simp_all; done) | (simp_all; omega)), q8⟩)
 refine (zz3 x.key _ _ (by exact Ty.Sl_loc (Nw.block q8) m.key)).mono ?_
 rintro e w9 ⟨rfl, n9⟩
 have q9 : Nw w w9 := q8.trans n9
 have p9 := p8.trans n9
 have x9 := Nw.box p9
 go_wp2_with fail
 all_goals try (go_ret; exact ⟨qAa (by unfold qDd qDl qCs; first | (simp_all; done) | (simp_all; omega)), q9⟩)
 refine (zz14 x.atts _ _ (by exact Ty.Sl_loc (Nw.block q9) m.atts)).mono ?_
 rintro e w10 ⟨rfl, n10⟩
 have q10 : Nw w w10 := q9.trans n10
 have p10 := p9.trans n10
 have x10 := Nw.box p10
 go_wp2_with fail
 all_goals try (go_ret; exact ⟨qAa (by unfold qDd qDl qCs; first | (simp_all; done) | (simp_all; omega)), q10⟩)
 refine (zz16 x.media _ _ (by exact Ty.Sl_loc (Nw.block q10) m.media)).mono ?_
 rintro e w11 ⟨rfl, n11⟩
 have q11 : Nw w w11 := q10.trans n11
 have p11 := p10.trans n11
 have x11 := Nw.box p11
 go_wp2_with fail
 all_goals (go_ret; exact ⟨qAa (by unfold qDd qDl qCs; first | (simp_all; done) | (simp_all; omega)), q11⟩)
end Go.Proofs.YtcepdjlknalmnaaGreatDoor

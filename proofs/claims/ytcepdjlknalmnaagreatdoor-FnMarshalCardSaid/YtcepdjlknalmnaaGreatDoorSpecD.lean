/- What the reference answers of times. -/
import Derived.Test.YtcepdjlknalmnaaGreatDoorSpecB
namespace Go.Proofs.YtcepdjlknalmnaaGreatDoor
open Go.RowKit
set_option linter.unusedSimpArgs false
set_option linter.unusedVariables false
theorem Ty.Sl_at {α : Type} {T : Ty α} {w : World} {xs : List α} {A : Option Addr} {n c : Nat} (h : T.Sl w xs (.slice A n c)) (k : Nat) (hk : k < xs.length) : ∃ b o, A = some ⟨b, o, none⟩ ∧ T.At w xs b o := by
 rcases h.2 with ⟨rfl, _⟩ | ⟨_, b, o, c', hv, _, ha⟩
 · simp at hk
 · obtain ⟨rfl, -, -⟩ := Value.slice.inj hv
   exact ⟨b, o, rfl, ha⟩
def offB (o : Int) : Bool := decide (0 ≤ o) && decide (o < 1099511627776)
def repB (r : Rep) : Bool := (decide (0 < r.ivl) && (decide (r.ivl < 1099511627776) && (decide (0 ≤ r.dur) && (decide (r.dur < 1099511627776) && (decide (0 < r.offs.length) && decide (r.offs.length ≤ 5)))))) && r.offs.all offB
def timB (t : Tim) : Bool := (decide (t.start < 1125899906842624) && (decide (t.stop < 1125899906842624) && decide (t.reps.length ≤ 5))) && t.reps.all repB
def timesOk (xs : List Tim) : Bool := xs.all timB && (decide (1 ≤ xs.length) && decide (xs.length ≤ 5))
set_option maxRecDepth 100000 in
set_option maxHeartbeats 1000000 in
theorem spec_times (xs : List Tim) (v : Value) (w : World) (h : tyTim.Sl w xs v) :
 Calls Tryz.prog 40 #[v] w fun e w' => e = .returned (.bool (timesOk xs)) ∧ Nw w w' := by
 obtain ⟨A, c, rfl⟩ := Ty.Sl_form h
 have hm := h.1
 go_enter Tryz.func40, Tryz.ntmps40
 go_wp2
 go_loopw [11] (fun i wr => ∃ k : Nat, k ≤ xs.length ∧ i = .int .i64 k ∧ Hid ((xs.take k).all timB = true) ∧ Nw w wr) (fun i _ => xs.length - (intOf i).toNat)
 case atStart => exact ⟨0, Nat.zero_le _, rfl, Lib.hid (by simp), Nw.refl _⟩
 case round =>
  obtain ⟨k, hk, rfl, hall, hnw⟩ := hrel
  by_cases hlt : k < xs.length
  · obtain ⟨b, o, rfl, ha⟩ := Ty.Sl_at h k hlt
    obtain ⟨cs, ⟨v1, rfl, hs0, hs1, h1⟩, hx⟩ := Ty.At_loc hnw.block ha k _ (List.getElem?_eq_getElem hlt)
    obtain ⟨A1, n1, rfl⟩ := Ty.Sl_form h1
    have c0 := hx 0 _ rfl
    have c1 := hx 1 _ rfl
    have c2 := hx 2 _ rfl
    simp only [tyTim, Nat.add_zero] at c0 c1 c2
    have hm1 := h1.1
    have HT := Lib.hid (take_all hlt hall.out)
    have HF : Hid (timB xs[k] = false → timesOk xs = false) := Lib.hid (fun e => by unfold timesOk; rw [all_false (f := timB) hlt e]; rfl)
    clear hx ha
    by_cases d1 : 1125899906842624 ≤ xs[k].start
    · go_wp2
      go_ret
      exact ⟨ret_bool (by rw [HF.out (by unfold timB; rw [decide_eq_false (by omega)]; rfl)]), hnw.alloc _⟩
    · by_cases d2 : 1125899906842624 ≤ xs[k].stop
      · go_wp2
        go_ret
        exact ⟨ret_bool (by rw [HF.out (by unfold timB; rw [decide_eq_false (p := xs[k].stop < _) (by omega)]; simp)]), hnw.alloc _⟩
      · by_cases d3 : (5 : Int) < (xs[k].reps.length : Int)
        · go_wp2
          go_ret
          exact ⟨ret_bool (by rw [HF.out (by unfold timB; rw [decide_eq_false (p := xs[k].reps.length ≤ 5) (by omega)]; simp)]), hnw.alloc _⟩
        · have HB : Hid (timB xs[k] = xs[k].reps.all repB) := Lib.hid (by unfold timB; rw [decide_eq_true (p := xs[k].start < _) (by omega), decide_eq_true (p := xs[k].stop < _) (by omega), decide_eq_true (p := xs[k].reps.length ≤ 5) (by omega)]; simp)
          go_wp2
          have hq : Nw wr (wr.alloc (.cells #[.int .u64 xs[k].start, .int .u64 xs[k].stop, .slice A1 xs[k].reps.length n1] 74)) := (Nw.refl wr).alloc _
          obtain ⟨wo, hwo⟩ : ∃ wo, wo = wr.alloc (.cells #[.int .u64 xs[k].start, .int .u64 xs[k].stop, .slice A1 xs[k].reps.length n1] 74) := ⟨_, rfl⟩
          rw [← hwo] at hq ⊢
          have hno : Nw w wo := hnw.trans hq
          have h1o := Ty.Sl_loc hq.block h1
          clear hwo c0 c1 c2 hq h1
          go_loopw [32] (fun i wr2 => ∃ j : Nat, j ≤ xs[k].reps.length ∧ i = .int .i64 j ∧ Hid ((xs[k].reps.take j).all repB = true) ∧ Nw wo wr2) (fun i _ => xs[k].reps.length - (intOf i).toNat)
          case atStart => exact ⟨0, Nat.zero_le _, rfl, Lib.hid (by simp), Nw.refl _⟩
          case round =>
           obtain ⟨j, hj, rfl, hall2, hnw2⟩ := hrel
           by_cases hlt2 : j < xs[k].reps.length
           · obtain ⟨b1, o1, rfl, ha1⟩ := Ty.Sl_at h1o j hlt2
             obtain ⟨cs, ⟨v2, rfl, hs2, hs3, h2⟩, hx⟩ := Ty.At_loc hnw2.block ha1 j _ (List.getElem?_eq_getElem hlt2)
             obtain ⟨A2, n2, rfl⟩ := Ty.Sl_form h2
             have c0 := hx 0 _ rfl
             have c1 := hx 1 _ rfl
             have c2 := hx 2 _ rfl
             simp only [tyRep, Nat.add_zero] at c0 c1 c2
             obtain ⟨r, hr⟩ : ∃ r, r = xs[k].reps[j] := ⟨_, rfl⟩
             rw [← hr] at c0 c1 c2 h2
             have HR : Hid (xs[k].reps[j] = r) := Lib.hid hr.symm
             have hm2 := h2.1
             have HT2 : Hid ((xs[k].reps.take (j + 1)).all repB = repB r) := Lib.hid (by rw [hr]; exact take_all hlt2 hall2.out)
             have HF2 : Hid (repB r = false → timesOk xs = false) := Lib.hid (fun e => HF.out (by rw [HB.out]; exact all_false hlt2 (by rw [← hr]; exact e)))
             clear hx ha1 hr
             have q9 : Nw w (wr.alloc (.cells #[.int .i64 r.ivl, .int .i64 r.dur, .slice A2 r.offs.length n2] 78)) := (hno.trans hnw2).alloc _
             by_cases g1 : r.ivl ≤ 0
             · go_wp2
               go_ret
               exact ⟨ret_bool (by rw [HF2.out (by unfold repB; rw [decide_eq_false (by omega)]; rfl)]), q9⟩
             · by_cases g2 : 1099511627776 ≤ r.ivl
               · go_wp2
                 go_ret
                 exact ⟨ret_bool (by rw [HF2.out (by unfold repB; rw [decide_eq_false (p := r.ivl < _) (by omega)]; simp)]), q9⟩
               · by_cases g3 : r.dur < 0
                 · go_wp2
                   go_ret
                   exact ⟨ret_bool (by rw [HF2.out (by unfold repB; rw [decide_eq_false (p := 0 ≤ r.dur) (by omega)]; simp)]), q9⟩
                 · by_cases g4 : 1099511627776 ≤ r.dur
                   · go_wp2
                     go_ret
                     exact ⟨ret_bool (by rw [HF2.out (by unfold repB; rw [decide_eq_false (p := r.dur < _) (by omega)]; simp)]), q9⟩
                   · cases g5 : ((r.offs.length : Int) == 0)
                     · by_cases g6 : (5 : Int) < (r.offs.length : Int)
                       · go_wp2
                         go_ret
                         exact ⟨ret_bool (by rw [HF2.out (by unfold repB; rw [decide_eq_false (p := r.offs.length ≤ 5) (by omega)]; simp)]), q9⟩
                       · have HB2 : Hid (repB r = r.offs.all offB) := Lib.hid (by
                          have g7 : 0 < r.offs.length := by simp at g5; exact List.length_pos_iff.2 g5
                          unfold repB; rw [decide_eq_true (p := 0 < r.ivl) (by omega), decide_eq_true (p := r.ivl < _) (by omega), decide_eq_true (p := 0 ≤ r.dur) (by omega), decide_eq_true (p := r.dur < _) (by omega), decide_eq_true (p := 0 < r.offs.length) g7, decide_eq_true (p := r.offs.length ≤ 5) (by omega)]; simp)
                         go_wp2
                         have h2o := Ty.Sl_loc ((Nw.refl wr).alloc (.cells #[.int .i64 r.ivl, .int .i64 r.dur, .slice A2 r.offs.length n2] 78)).block h2
                         have q8 : Nw wo (wr.alloc (.cells #[.int .i64 r.ivl, .int .i64 r.dur, .slice A2 r.offs.length n2] 78)) := hnw2.alloc _
                         obtain ⟨wp, hwp⟩ : ∃ wp, wp = wr.alloc (.cells #[.int .i64 r.ivl, .int .i64 r.dur, .slice A2 r.offs.length n2] 78) := ⟨_, rfl⟩
                         rw [← hwp] at q8 q9 h2o ⊢
                         clear hwp c0 c1 c2 h2
                         go_loop [69] (fun i => ∃ l : Nat, l ≤ r.offs.length ∧ i = .int .i64 l ∧ Hid ((r.offs.take l).all offB = true)) (fun i => r.offs.length - (intOf i).toNat)
                         case atStart => exact ⟨0, Nat.zero_le _, rfl, Lib.hid (by simp)⟩
                         case round =>
                          obtain ⟨l, hl, rfl, hall3⟩ := hrel
                          by_cases hlt3 : l < r.offs.length
                          · obtain ⟨b2, o2, rfl, ha2⟩ := Ty.Sl_at h2o l hlt3
                            obtain ⟨cs, ⟨rfl, hwf⟩, hx⟩ := ha2 l _ (List.getElem?_eq_getElem hlt3)
                            have hx := hx 0 _ rfl
                            simp only [tyI, tyInt, Ty.flat, Nat.mul_one, Nat.add_zero] at hx
                            have HT3 := Lib.hid (take_all hlt3 hall3.out)
                            have HF3 : Hid (offB r.offs[l] = false → timesOk xs = false) := Lib.hid (fun e => HF2.out (by rw [HB2.out]; exact all_false hlt3 e))
                            by_cases f1 : r.offs[l] < 0
                            · go_wp2
                              go_ret
                              exact ⟨ret_bool (by rw [HF3.out (by unfold offB; rw [decide_eq_false (by omega)]; rfl)]), q9⟩
                            · by_cases f2 : 1099511627776 ≤ r.offs[l]
                              · go_wp2
                                go_ret
                                exact ⟨ret_bool (by rw [HF3.out (by unfold offB; rw [decide_eq_false (p := r.offs[l] < _) (by omega)]; simp)]), q9⟩
                              · go_wp2
                                exact ⟨⟨l + 1, by omega, by go_num, Lib.hid (by rw [HT3.out]; simp [offB]; omega)⟩, by simp [intOf]; omega⟩
                          · have HE : Hid (repB r = true) := Lib.hid (by rw [HB2.out, ← hall3.out, List.take_of_length_le (by omega)])
                            go_wp2
                            exact ⟨⟨j + 1, by omega, by go_num, Lib.hid (by rw [HT2.out, HE.out]), q8⟩, by simp [intOf]; omega⟩
                     · have g7 : r.offs.length = 0 := by simpa using g5
                       have HE : Hid (repB r = false) := Lib.hid (by unfold repB; rw [decide_eq_false (p := 0 < r.offs.length) (by omega)]; simp)
                       clear g7
                       go_wp2
                       go_ret
                       exact ⟨ret_bool (by rw [HF2.out HE.out]), q9⟩
           · have HE : Hid (timB xs[k] = true) := Lib.hid (by rw [HB.out, ← hall2.out, List.take_of_length_le (by omega)])
             go_wp2
             exact ⟨⟨k + 1, by omega, by go_num, Lib.hid (by rw [HT.out, HE.out]), hno.trans hnw2⟩, by simp [intOf]; omega⟩
  · have HE : Hid (timesOk xs = (decide (1 ≤ xs.length) && decide (xs.length ≤ 5))) := Lib.hid (by
     rw [List.take_of_length_le (by omega)] at hall
     unfold timesOk; rw [hall.out]; rfl)
    go_wp2
    all_goals go_ret
    all_goals exact ⟨ret_bool (by rw [HE.out, Bool.eq_iff_iff]; simp; omega), hnw⟩
end Go.Proofs.YtcepdjlknalmnaaGreatDoor

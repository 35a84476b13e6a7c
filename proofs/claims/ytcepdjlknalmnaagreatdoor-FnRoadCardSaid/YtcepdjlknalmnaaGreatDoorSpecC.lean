/- Laws of this claim. -/
import Derived.Test.YtcepdjlknalmnaaGreatDoorSpecD
import Derived.Deep.RegionHeld3
import Derived.Deep.DrawnRows
set_option linter.unusedSimpArgs false
set_option linter.unusedVariables false
namespace Go.Proofs.YtcepdjlknalmnaaGreatDoor
open Tryz
open Lib (hid)
open Go.RowKit
attribute [local go_sem ↓] Go.wp_at_zero Go.wp_at_succ
def qA1 : List ByteArray := [⟨#[73, 80, 52]⟩, ⟨#[73, 80, 54]⟩]
def qLt (n : Int) : Bool := decide (0 <= n) && decide (n <= 255)
def qG7 (l : List Int) : Bool := l.all qLt
theorem inf3 : (prog.info? 3).map (fun i => (i.zero, i.size, i.bytes)) = some (some (.int .i64 0), 1, 8) := by kernel_rfl
theorem qKf (w : World) (B e sz : Nat) (hB : B <= w.heap.size) : Row (w.alloc (.cells #[] e)) B e sz (.slice (some ⟨w.heap.size, 0, none⟩) 0 0) [] :=
 ⟨by simp, World.ownsRow_made w #[] 0 hB (by simp [maxLen]) (by simp)⟩
set_option maxRecDepth 100000 in
theorem qOb (x : Con) (y : Adr) (v1 v2 : Value) (b o b' o' c c' : Nat) (w : World)
 (k0 : w.cell? ⟨b, o, none⟩ = some (.string x.net)) (k1 : w.cell? ⟨b, o + 1, none⟩ = some (.string x.addr)) (k2 : w.cell? ⟨b, o + 2, none⟩ = some (.slice (some ⟨b', o', none⟩) 1 c'))
 (j0 : w.cell? ⟨b', o', none⟩ = some (.string y.addr)) (j1 : w.cell? ⟨b', o' + 1, none⟩ = some v1) (j2 : w.cell? ⟨b', o' + 2, none⟩ = some v2)
 (t1 : tyI.Sl w y.ttl v1) (t2 : tyI.Sl w y.rng v2) (hw : qAb y.addr)
 (hn : x.net.toList = [73, 78]) (hi : qDb x.addr qA1 = true) (hwd : qGh y.addr = true) (hl1 : y.ttl.length <= 1) (hl2 : y.rng.length <= 1) :
 Calls prog 43 #[.slice (some ⟨b,o,none⟩) 1 c] w fun e w' => e = .returned (.bool (qG7 (y.ttl ++ y.rng))) /\ Nw w w' := by
 obtain ⟨A1, n1, rfl⟩ := Ty.Sl_form t1
 obtain ⟨A2, n2, rfl⟩ := Ty.Sl_form t2
 have lb' : b' < w.heap.size := World.block_lt_of_cell? w _ j0
 have e1 : (x.net.toList == [73, 78]) = true := by rw [hn]; rfl
 have e2 : (x.net.toList != [73, 78]) = false := by rw [hn]; rfl
 have f1 : ¬ (1 : Int) < (y.ttl.length : Int) := by omega
 have f2 : ¬ (1 : Int) < (y.rng.length : Int) := by omega
 clear hn
 have hs : qAd.Sl ((w.alloc (.cells #[.string x.net, .string x.addr, .slice (some ⟨b', o', none⟩) 1 c'] 124)).alloc (.cells #[.string ⟨#[73, 80, 52]⟩, .string ⟨#[73, 80, 54]⟩] 9)) qA1 (.slice (some ⟨w.heap.size + 1, 0, none⟩) 2 2) := by
  have := qH6 (w.alloc (.cells #[.string x.net, .string x.addr, .slice (some ⟨b', o', none⟩) 1 c'] 124)) qA1 9 (qCi (by decide)) (by decide) (by decide)
  simpa [qA1] using this
 go_enter func43, ntmps43
 go_wp2_with (first | (go_at_call 39; refine (qB1 x.addr qA1 _ _ hs).mono ?_; rintro e w1 ⟨rfl, rfl⟩) | (go_at_call 38; refine (qB4 y.addr _ hw).mono ?_; rintro e w1 ⟨rfl, rfl⟩))
 obtain ⟨w1, hw1⟩ : ∃ w1, w1 = ((w.alloc (.cells #[.string x.net, .string x.addr, .slice (some ⟨b', o', none⟩) 1 c'] 124)).alloc (.cells #[.string ⟨#[73, 80, 52]⟩, .string ⟨#[73, 80, 54]⟩] 9)) := ⟨_, rfl⟩
 have g2 : w1.cell? ⟨w.heap.size, 2, none⟩ = some (.slice (some ⟨b', o', none⟩) 1 c') := by rw [hw1]; go_simp
 have g3 : w1.cell? ⟨b', o' + 1, none⟩ = some (.slice A1 y.ttl.length n1) := by rw [hw1]; go_simp
 have g4 : w1.cell? ⟨b', o' + 2, none⟩ = some (.slice A2 y.rng.length n2) := by rw [hw1]; go_simp
 have u1 : tyI.Sl w1 y.ttl (.slice A1 y.ttl.length n1) := by rw [hw1]; exact Ty.Sl_loc (((Nw.refl w).alloc _).alloc _).block t1
 have u2 : tyI.Sl w1 y.rng (.slice A2 y.rng.length n2) := by rw [hw1]; exact Ty.Sl_loc (((Nw.refl w).alloc _).alloc _).block t2
 have q1 : Nw w w1 := by rw [hw1]; exact ((Nw.refl w).alloc _).alloc _
 have z1 : w.heap.size + 2 = w1.heap.size := by rw [hw1]; simp
 have Z1 := hid z1
 rw [<- hw1]
 clear hs k0 k1 k2 j0 j1 j2 z1 hw1
 go_region_held3 (fun w' => w'.cell? ⟨w.heap.size, 2, none⟩ = some (.slice (some ⟨b', o', none⟩) 1 c') /\ w'.cell? ⟨b', o' + 1, none⟩ = some (.slice A1 y.ttl.length n1) /\ w'.cell? ⟨b', o' + 2, none⟩ = some (.slice A2 y.rng.length n2)) (first | go_keep | exact ⟨Nw.cell (by assumption) g2, Nw.cell (by assumption) g3, Nw.cell (by assumption) g4⟩)
  (first
   | (refine qA3 rfl ?_; refine qCh (T := tyI) w1.heap.size (.tmp 60) (.tmp 65) 82 3 (.int .i64 0) 8 (by rfl) underlying82 inf3 rfl (by decide) (.slice (some ⟨w1.heap.size, 0, none⟩) 0 0) _ [] y.ttl (by rfl) (by rfl) (by exact Ty.Sl_loc (((Nw.refl w1).alloc _).drew).block u1) (by exact (qKf w1 w1.heap.size 3 1 (Nat.le_refl _)).nw (Nw.refl _).drew) (by simp) (by simp; omega) (by simp; omega) ?_; intro v1 w2 news1 hnl1 hnr1 hrow1 hfr1 hat1; have hq2 : Nw w1 w2 := Nw.frIn ((Nw.refl w1).alloc _).drew hfr1 (by intro i hi; simp [Value.ownBlock] at hi; omega))
   | (refine qA3 rfl ?_; refine qCh (T := tyI) w1.heap.size (.tmp 66) (.tmp 71) 82 3 (.int .i64 0) 8 (by rfl) underlying82 inf3 rfl (by decide) v1 _ ([] ++ news1) y.rng (by rfl) (by rfl) (by exact Ty.Sl_loc hq2.block u2) hrow1 (by exact hq2.size) (by simp; omega) (by simp; omega) ?_; intro v2 w3 news2 hnl2 hnr2 hrow2 hfr2 hat2; have hq3 : Nw w1 w3 := Nw.frIn hq2 hfr2 (by intro i hi; exact (hrow1.base i hi.symm).1); obtain ⟨A3, c3, rfl, _⟩ := hrow2.form))
 have hlen : ([] ++ news1 ++ news2).length = (y.ttl ++ y.rng).length := by simp [hnl1, hnl2]
 have hsl : tyI.Sl w3 (y.ttl ++ y.rng) (.slice A3 ([] ++ news1 ++ news2).length c3) := Row.sl (T := tyI) hrow2 hlen.symm (by rw [hlen]; simp; omega) (fun k x r hx hr => by
  simp only [List.nil_append] at hr
  rcases Nat.lt_or_ge k y.ttl.length with hk | hk
  · rw [List.getElem?_append_left hk] at hx
    rw [List.getElem?_append_left (by omega)] at hr
    exact hnr1 k x r hx hr
  rw [List.getElem?_append_right hk] at hx
  rw [List.getElem?_append_right (by omega), hnl1] at hr
  exact hnr2 _ x r hx hr)
 have q3 : Nw w w3 := q1.trans hq3
 obtain ⟨zs, hzs⟩ : ∃ zs, y.ttl ++ y.rng = zs := ⟨_, rfl⟩
 have hz2 : zs.length <= 2 := by rw [<- hzs]; simp; omega
 have HZ : Hid (([] ++ news1 ++ news2).length = zs.length /\ news1.length + news2.length = zs.length) := hid ⟨by rw [hlen, hzs], by rw [<- hzs]; simp [hnl1, hnl2]⟩
 rw [hzs] at hsl
 rw [HZ.out.1] at hsl
 clear hrow1 hrow2 hnr1 hnr2 hlen hfr1 hfr2 hat1 hat2 u1 u2 t1 t2 g2 g3 g4
 go_wp2
 have hzl : y.ttl.length + y.rng.length = zs.length := by rw [<- hzs]; simp
 have HZL := hid hzl
 have HZS := hid hzs
 rcases hsl.2 with ⟨he, A, c9, hv, hA⟩ | ⟨hp, b2, o2, c2, hv, hc2, ha2⟩
 · have l1 : y.ttl.length = 0 := by have h0 : zs.length = 0 := (by rw [he]; rfl); omega
   have l2 : y.rng.length = 0 := by have h0 : zs.length = 0 := (by rw [he]; rfl); omega
   have H1 : Hid (zs = []) := hid he
   clear hsl hv he hA hzl hzs
   refine wp_loop_rounds 1 ?_
   rw [rounds_succ]
   go_wp2
   go_ret
   exact ⟨qAa (by rw [HZS.out, H1.out]; rfl), q3⟩
 obtain ⟨rfl, -, rfl⟩ := Value.slice.inj hv
 clear hsl hv hzs
 have hz3 : y.ttl.length + y.rng.length <= 2 := by omega
 have hz4 : zs.length <= y.ttl.length + y.rng.length := by omega
 clear hzl
 go_loop [74] (fun i => ∃ k : Nat, k <= zs.length /\ i = .int .i64 k /\ Hid ((zs.take k).all qLt = true)) (fun i => zs.length - (intOf i).toNat)
 case atStart => exact ⟨0, Nat.zero_le _, rfl, hid (by simp)⟩
 obtain ⟨k, hk, rfl, hall⟩ := hrel
 by_cases hlt : k < zs.length
 · obtain ⟨cs, ⟨rfl, hwf⟩, hx⟩ := ha2 k _ (List.getElem?_eq_getElem hlt)
   have hx := hx 0 _ rfl
   simp only [tyI, qCn, Ty.flat, Nat.mul_one, Nat.add_zero] at hx
   have HT := hid (qBm hlt hall.out)
   have HN := hid (qA6 (f := qLt) hlt)
   have hlt2 : k < y.ttl.length + y.rng.length := by have := HZL.out; omega
   by_cases h1 : zs[k] < 0
   · go_wp2
     go_ret
     exact ⟨qAa (by unfold qG7; rw [HZS.out, HN.out (by simp [qLt]; omega)]), q3⟩
   by_cases h2 : 255 < zs[k]
   · go_wp2
     go_ret
     exact ⟨qAa (by unfold qG7; rw [HZS.out, HN.out (by simp [qLt]; omega)]), q3⟩
   go_wp2
   exact ⟨⟨k + 1, by omega, by go_num, hid (by rw [HT.out]; simp [qLt]; omega)⟩, by simp [intOf]; omega⟩
 have hlt2 : ¬ k < y.ttl.length + y.rng.length := by have := HZL.out; omega
 go_wp2
 go_ret
 exact ⟨qAa (by unfold qG7; rw [HZS.out, <- hall.out, List.take_of_length_le (by omega)]), q3⟩
def qDh (x : Con) : Bool := (x.net.toList == [73, 78]) && (qDb x.addr qA1 && match x.adrs with
 | [y] => qGh y.addr && (decide (y.ttl.length <= 1) && (decide (y.rng.length <= 1) && qG7 (y.ttl ++ y.rng)))
 | _ => false)
def qEq : List Con -> Bool
 | [] => true
 | [x] => qDh x
 | _ => false
set_option maxRecDepth 100000 in
theorem qOc (x : Con) (n : Nat) (A : Option Addr) (m : Nat) (b o c c' : Nat) (w : World) (hp : 0 < n)
 (k0 : w.cell? ⟨b, o, none⟩ = some (.string x.net)) (k1 : w.cell? ⟨b, o + 1, none⟩ = some (.string x.addr)) (k2 : w.cell? ⟨b, o + 2, none⟩ = some (.slice A m c'))
 (h : 1 < n ∨ (x.net.toList == [73, 78]) = false ∨ qDb x.addr qA1 = false ∨ m ≠ 1) :
 Calls prog 43 #[.slice (some ⟨b,o,none⟩) n c] w fun e w' => e = .returned (.bool false) /\ Nw w w' := by
 have n1 : ((n : Int) == 0) = false := by simp; omega
 have n2 : (0 : Int) < (n : Int) := by omega
 have q0 : Nw w (w.alloc (.cells #[.string x.net, .string x.addr, .slice A m c'] 124)) := (Nw.refl w).alloc _
 have q1 : Nw w ((w.alloc (.cells #[.string x.net, .string x.addr, .slice A m c'] 124)).alloc (.cells #[.string ⟨#[73, 80, 52]⟩, .string ⟨#[73, 80, 54]⟩] 9)) := q0.alloc _
 have hs : qAd.Sl ((w.alloc (.cells #[.string x.net, .string x.addr, .slice A m c'] 124)).alloc (.cells #[.string ⟨#[73, 80, 52]⟩, .string ⟨#[73, 80, 54]⟩] 9)) qA1 (.slice (some ⟨w.heap.size + 1, 0, none⟩) 2 2) := by
  have := qH6 (w.alloc (.cells #[.string x.net, .string x.addr, .slice A m c'] 124)) qA1 9 (qCi (by decide)) (by decide) (by decide)
  simpa [qA1] using this
 by_cases h1 : (1 : Int) < (n : Int)
 · clear h
   go_enter func43, ntmps43
   go_wp2
   go_ret
   exact ⟨qAa rfl, q0⟩
 cases h2 : (x.net.toList == [73, 78])
 · have h3 : (x.net.toList != [73, 78]) = true := by simp [bne, h2]
   clear h
   go_enter func43, ntmps43
   go_wp2
   go_ret
   exact ⟨qAa rfl, q0⟩
 have h3 : (x.net.toList != [73, 78]) = false := by simp [bne, h2]
 cases h4 : qDb x.addr qA1
 · clear h
   go_enter func43, ntmps43
   go_wp2_with (go_at_call 39; refine (qB1 x.addr qA1 _ _ hs).mono ?_; rintro e w1 ⟨rfl, rfl⟩)
   go_ret
   exact ⟨qAa rfl, q1⟩
 have h5 : m ≠ 1 := by
  rcases h with h | h | h | h
  · omega
  · rw [h2] at h; cases h
  · rw [h4] at h; cases h
  exact h
 have h6 : ((m : Int) == 1) = false := by simp; omega
 have h7 : ((m : Int) != 1) = true := by simp; omega
 clear h h5
 go_enter func43, ntmps43
 go_wp2_with (go_at_call 39; refine (qB1 x.addr qA1 _ _ hs).mono ?_; rintro e w1 ⟨rfl, rfl⟩)
 go_ret
 exact ⟨qAa rfl, q1⟩
set_option maxRecDepth 100000 in
theorem qOd (x : Con) (y : Adr) (v1 v2 : Value) (b o b' o' c c' : Nat) (w : World)
 (k0 : w.cell? ⟨b, o, none⟩ = some (.string x.net)) (k1 : w.cell? ⟨b, o + 1, none⟩ = some (.string x.addr)) (k2 : w.cell? ⟨b, o + 2, none⟩ = some (.slice (some ⟨b', o', none⟩) 1 c'))
 (j0 : w.cell? ⟨b', o', none⟩ = some (.string y.addr)) (j1 : w.cell? ⟨b', o' + 1, none⟩ = some v1) (j2 : w.cell? ⟨b', o' + 2, none⟩ = some v2)
 (t1 : tyI.Sl w y.ttl v1) (t2 : tyI.Sl w y.rng v2) (hw : qAb y.addr)
 (hn : x.net.toList = [73, 78]) (hi : qDb x.addr qA1 = true) (h : qGh y.addr = false ∨ 1 < y.ttl.length ∨ 1 < y.rng.length) :
 Calls prog 43 #[.slice (some ⟨b,o,none⟩) 1 c] w fun e w' => e = .returned (.bool false) /\ Nw w w' := by
 obtain ⟨A1, n1, rfl⟩ := Ty.Sl_form t1
 obtain ⟨A2, n2, rfl⟩ := Ty.Sl_form t2
 have lb' : b' < w.heap.size := World.block_lt_of_cell? w _ j0
 have e1 : (x.net.toList == [73, 78]) = true := by rw [hn]; rfl
 have e2 : (x.net.toList != [73, 78]) = false := by rw [hn]; rfl
 clear hn
 have hs : qAd.Sl ((w.alloc (.cells #[.string x.net, .string x.addr, .slice (some ⟨b', o', none⟩) 1 c'] 124)).alloc (.cells #[.string ⟨#[73, 80, 52]⟩, .string ⟨#[73, 80, 54]⟩] 9)) qA1 (.slice (some ⟨w.heap.size + 1, 0, none⟩) 2 2) := by
  have := qH6 (w.alloc (.cells #[.string x.net, .string x.addr, .slice (some ⟨b', o', none⟩) 1 c'] 124)) qA1 9 (qCi (by decide)) (by decide) (by decide)
  simpa [qA1] using this
 have q1 : Nw w ((w.alloc (.cells #[.string x.net, .string x.addr, .slice (some ⟨b', o', none⟩) 1 c'] 124)).alloc (.cells #[.string ⟨#[73, 80, 52]⟩, .string ⟨#[73, 80, 54]⟩] 9)) := ((Nw.refl w).alloc _).alloc _
 cases h1 : qGh y.addr
 · clear h
   go_enter func43, ntmps43
   go_wp2_with (first | (go_at_call 39; refine (qB1 x.addr qA1 _ _ hs).mono ?_; rintro e w1 ⟨rfl, rfl⟩) | (go_at_call 38; refine (qB4 y.addr _ hw).mono ?_; rintro e w1 ⟨rfl, rfl⟩))
   go_ret
   exact ⟨qAa rfl, q1⟩
 by_cases h2 : (1 : Int) < (y.ttl.length : Int)
 · clear h
   go_enter func43, ntmps43
   go_wp2_with (first | (go_at_call 39; refine (qB1 x.addr qA1 _ _ hs).mono ?_; rintro e w1 ⟨rfl, rfl⟩) | (go_at_call 38; refine (qB4 y.addr _ hw).mono ?_; rintro e w1 ⟨rfl, rfl⟩))
   go_ret
   exact ⟨qAa rfl, q1⟩
 have h3 : (1 : Int) < (y.rng.length : Int) := by
  rcases h with h | h | h
  · rw [h1] at h; cases h
  · omega
  omega
 clear h
 go_enter func43, ntmps43
 go_wp2_with (first | (go_at_call 39; refine (qB1 x.addr qA1 _ _ hs).mono ?_; rintro e w1 ⟨rfl, rfl⟩) | (go_at_call 38; refine (qB4 y.addr _ hw).mono ?_; rintro e w1 ⟨rfl, rfl⟩))
 go_ret
 exact ⟨qAa rfl, q1⟩
theorem qFk (xs : List Con) (v : Value) (w : World) (h : qC0.Sl w xs v) :
 Calls prog 43 #[v] w fun e w' => e = .returned (.bool (qEq xs)) /\ Nw w w' := by
 obtain ⟨hm, h⟩ := h
 rcases h with ⟨rfl, A, c, rfl, _⟩ | ⟨hp, b, o, c, rfl, hc, ha⟩
 · go_enter func43, ntmps43
   go_wp2
   go_ret
   exact ⟨qAa rfl, Nw.refl _⟩
 match xs, hp with
 | x :: l, hp =>
  obtain ⟨cs, ⟨v1, rfl, h0, h0', h1⟩, hx⟩ := ha 0 x rfl
  have c0 := hx 0 _ rfl
  have c1 := hx 1 _ rfl
  have c2 := hx 2 _ rfl
  simp only [qC0, Nat.add_zero, Nat.zero_mul] at c0 c1 c2
  obtain ⟨A, m, rfl⟩ := Ty.Sl_form h1
  by_cases g : 1 < (x :: l).length ∨ (x.net.toList == [73, 78]) = false ∨ qDb x.addr qA1 = false ∨ x.adrs.length ≠ 1
  · refine (qOc x _ A _ b o c m w hp c0 c1 c2 g).mono fun e w' hw => ⟨?_, hw.2⟩
    rw [hw.1]
    refine qAa ?_
    match l with
    | _ :: _ => rfl
    | [] =>
     simp only [qEq, qDh]
     rcases g with g | g | g | g
     · simp at g
     · rw [g]; rfl
     · rw [g]; simp
     match hd : x.adrs with
     | [] => simp
     | [y] => rw [hd] at g; simp at g
     | _ :: _ :: _ => simp
  simp only [not_or, Bool.not_eq_false, Decidable.not_not] at g
  obtain ⟨g1, g2, g3, g4⟩ := g
  obtain rfl : l = [] := by cases l with
   | nil => rfl
   | cons => simp at g1
  match hd : x.adrs, g4 with
  | [y], _ =>
   rw [hd] at h1 c2
   rcases h1.2 with ⟨he, _⟩ | ⟨_, b', o', c', hv, _, ha'⟩
   · cases he
   obtain ⟨rfl, -, rfl⟩ := Value.slice.inj hv
   obtain ⟨ds, ⟨u1, u2, rfl, t0, t1, t2⟩, hy⟩ := ha' 0 y rfl
   have j0 := hy 0 _ rfl
   have j1 := hy 1 _ rfl
   have j2 := hy 2 _ rfl
   simp only [qE2, Nat.add_zero, Nat.zero_mul] at j0 j1 j2
   have hn : x.net.toList = [73, 78] := by simpa using g2
   by_cases g5 : qGh y.addr = false ∨ 1 < y.ttl.length ∨ 1 < y.rng.length
   · refine (qOd x y u1 u2 b o b' o' c _ w c0 c1 c2 j0 j1 j2 t1 t2 t0 hn g3 g5).mono fun e w' hw => ⟨?_, hw.2⟩
     rw [hw.1]
     refine qAa ?_
     simp only [qEq, qDh, hd]
     rcases g5 with g | g | g
     · rw [g]; simp
     · rw [decide_eq_false (by omega)]; simp
     rw [decide_eq_false (p := y.rng.length <= 1) (by omega)]; simp
   simp only [not_or, Bool.not_eq_false] at g5
   refine (qOb x y u1 u2 b o b' o' c _ w c0 c1 c2 j0 j1 j2 t1 t2 t0 hn g3 g5.1 (by omega) (by omega)).mono fun e w' hw => ⟨?_, hw.2⟩
   rw [hw.1]
   refine qAa ?_
   simp only [qEq, qDh, hd]
   rw [g2, g3, g5.1, decide_eq_true (p := y.ttl.length <= 1) (by omega), decide_eq_true (p := y.rng.length <= 1) (by omega)]
   simp
end Go.Proofs.YtcepdjlknalmnaaGreatDoor

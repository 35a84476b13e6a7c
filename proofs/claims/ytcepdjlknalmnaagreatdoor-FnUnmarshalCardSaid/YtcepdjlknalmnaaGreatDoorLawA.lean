/- The statements' own comparisons. -/
import Derived.Test.YtcepdjlknalmnaaGreatDoorTxtD
namespace Go.Proofs.YtcepdjlknalmnaaGreatDoor
open Go.RowKit
set_option linter.unusedSimpArgs false
set_option linter.unusedVariables false
attribute [local go_sem ↓] Go.wp_at_zero Go.wp_at_succ

set_option maxRecDepth 100000 in
theorem law_lines (xs : List ByteArray) (v v' : Value) (w : World) (h : tyStr.Sl w xs v) (h' : tyStr.Sl w xs v') :
    Calls Tryz.prog 50 #[v, v'] w fun e w' => e = .returned (.bool true) ∧ Nw w w' := by
  obtain ⟨A, c, rfl⟩ := Ty.Sl_form h
  obtain ⟨A', c', rfl⟩ := Ty.Sl_form h'
  have hm := h.1
  go_enter Tryz.func50, Tryz.ntmps50
  go_wp2
  go_loopw [13] (fun i wr => ∃ k : Nat, k ≤ xs.length ∧ i = .int .i64 k ∧ Nw w wr) (fun i _ => xs.length - (intOf i).toNat)
  case atStart => exact ⟨0, Nat.zero_le _, rfl, Nw.refl _⟩
  case round =>
    obtain ⟨k, hk, rfl, hnw⟩ := hrel
    by_cases hlt : k < xs.length
    · obtain ⟨b, o, rfl, ha⟩ := Ty.Sl_at h k hlt
      obtain ⟨b', o', rfl, ha'⟩ := Ty.Sl_at h' k hlt
      obtain ⟨cs, ⟨rfl, hwf⟩, hx⟩ := ha k _ (List.getElem?_eq_getElem hlt)
      obtain ⟨cs, ⟨rfl, hwf'⟩, hx'⟩ := ha' k _ (List.getElem?_eq_getElem hlt)
      have c0 := hnw.cell (hx 0 _ rfl)
      have c1 := hnw.cell (hx' 0 _ rfl)
      simp only [tyStr, Ty.flat, Nat.mul_one, Nat.add_zero] at c0 c1
      clear hx hx'
      have k1 : (0 : Int) ≤ (k : Int) := by omega
      have k2 : (k : Int) < (xs.length : Int) := by omega
      have k3 : (k : Int) ≤ (xs.length : Int) := by omega
      go_wp2
      go_region_held3 (fun w' => w'.cell? ⟨b, o + k, none⟩ = some (.string xs[k]) ∧ w'.cell? ⟨b', o' + k, none⟩ = some (.string xs[k])) (first | exact ⟨Nw.cell (by (repeat (first | (with_reducible assumption) | (with_reducible exact Nw.refl _) | (with_reducible refine Nw.drew ?_) | (with_reducible refine Nw.drewN ?_ _) | (with_reducible refine Nw.alloc ?_ _)))) c0, Nw.cell (by (repeat (first | (with_reducible assumption) | (with_reducible exact Nw.refl _) | (with_reducible refine Nw.drew ?_) | (with_reducible refine Nw.drewN ?_ _) | (with_reducible refine Nw.alloc ?_ _)))) c1⟩ | go_keep) (first | fail)
      go_wp2
      exact ⟨⟨k + 1, by omega, by go_num, hnw.drew⟩, by simp [intOf]; omega⟩
    · go_wp2
      go_ret
      exact ⟨rfl, hnw⟩
end Go.Proofs.YtcepdjlknalmnaaGreatDoor

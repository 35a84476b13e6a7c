/- A bare proper session is read back as it was. Plain. -/
import Derived.Test.YtcepdjlknalmnaaGreatDoorSegs
import Derived.Test.YtcepdjlknalmnaaGreatDoorBnd
import Derived.Test.YtcepdjlknalmnaaGreatDoorOwnB
namespace Go.Proofs.YtcepdjlknalmnaaGreatDoor
open Go.RowKit
set_option linter.unusedSimpArgs false
set_option linter.unusedVariables false

theorem flat_con {c : Con} (h : bareC c = true) : flatCon c = c := by
  obtain ⟨n, a, l⟩ := c
  unfold flatCon
  match l, h with
  | [], _ => rfl
  | [⟨s, t, r⟩], h =>
    unfold bareC bareA at h
    simp only [List.all_cons, List.all_nil, Bool.and_true, decide_eq_true_eq] at h
    have ht : t = [] := List.eq_nil_of_length_eq_zero (by omega)
    have hr : r = [] := List.eq_nil_of_length_eq_zero (by omega)
    subst ht; subst hr
    simp [numsL, mk_bs]
  | _ :: _ :: _, _ => rfl
theorem flat_bare {x : Ssn} (hv : x.ver = 0) (h : bare x = true) : flatSsn x = x := by
  unfold bare consOf at h
  simp only [List.all_append, List.all_flatMap, Bool.and_eq_true, List.all_eq_true] at h
  obtain ⟨h1, h2⟩ := h
  have e1 : x.conn.map flatCon = x.conn := by
    conv => rhs; rw [← List.map_id x.conn]
    exact List.map_congr_left (fun c hc => flat_con (h1 c hc))
  have e2 : x.media.map Pst.flatMed = x.media := by
    conv => rhs; rw [← List.map_id x.media]
    refine List.map_congr_left (fun y hy => ?_)
    have e3 : y.conn.map flatCon = y.conn := by
      conv => rhs; rw [← List.map_id y.conn]
      exact List.map_congr_left (fun c hc => flat_con (h2 y hy c hc))
    unfold Pst.flatMed
    rw [e3]
    rfl
  unfold flatSsn
  rw [e1, e2, ← hv]
end Go.Proofs.YtcepdjlknalmnaaGreatDoor

/- A proper session's text is not too long. Plain. -/
namespace Go.Proofs.YtcepdjlknalmnaaGreatDoor
open Go.RowKit
set_option linter.unusedSimpArgs false
set_option linter.unusedVariables false

theorem ends_len {e : List UInt8} {n : Nat} : ∀ (ls : List (List UInt8)), (∀ l ∈ ls, l.length ≤ n) → (joinEnds e ls).length ≤ ls.length * (n + e.length)
  | [], _ => by simp [joinEnds]
  | l :: ls, h => by
    have h1 := ends_len (e := e) ls (fun x hx => h x (List.mem_cons_of_mem _ hx))
    have h2 := h l (List.mem_cons_self ..)
    have h3 : (joinEnds e (l :: ls)).length = l.length + e.length + (joinEnds e ls).length := by
      simp [joinEnds]; omega
    rw [h3, List.length_cons, Nat.succ_mul]
    omega
theorem join_fit {x : Ssn} {w : World} {v0 v1 v2 v3 v4 v5 v6 v7 v8 v9 v10 : Value} (m : SsnAt w x v0 v1 v2 v3 v4 v5 v6 v7 v8 v9 v10) (hf : fitB1 x = true) (hp : proper x = true) (e : List UInt8) (he : e.length ≤ 2) : (joinEnds e (linesB x)).length ≤ 1100000000000000000 := by
  obtain ⟨h1, h2⟩ := ssn_fit m hf
  obtain ⟨h3, h4, h5, h6, h7⟩ := lns_ok hp h1
  rw [← lns_text x h7]
  have hw := wts_len (lns x)
  have h := ends_len (e := e) (n := 1000000000000000) ((lns x).map Ln.text) (fun t ht => by
    obtain ⟨l, hl, rfl⟩ := List.mem_map.1 ht
    exact text_len (h3 l hl) (h2 l hl))
  rw [List.length_map] at h
  have h8 : (lns x).length * (1000000000000000 + e.length) ≤ 1000 * (1000000000000000 + 2) := Nat.mul_le_mul (by omega) (by omega)
  omega
end Go.Proofs.YtcepdjlknalmnaaGreatDoor

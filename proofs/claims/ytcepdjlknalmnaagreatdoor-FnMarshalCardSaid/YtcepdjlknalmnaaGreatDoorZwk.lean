/- What a proper session that fits brings for the package's Marshal. Plain laws. -/
import Derived.Test.YtcepdjlknalmnaaGreatDoorScb
import Derived.Test.YtcepdjlknalmnaaGreatDoorWrk
import Derived.Test.YtcepdjlknalmnaaGreatDoorTxtF
import Derived.Test.YtcepdjlknalmnaaGreatDoorSrw
import Derived.Test.YtcepdjlknalmnaaGreatDoorOrd
import Derived.Test.YtcepdjlknalmnaaGreatDoorTxtD
import Derived.Deep.Cut
import Derived.Deep.CutRange
import Derived.Deep.RegionHeld3
import Derived.Test.YtcepdjlknalmnaaGreatDoorOwn
import Derived.Test.YtcepdjlknalmnaaGreatDoorSegs
import Derived.Test.YtcepdjlknalmnaaGreatDoorBnd
import Derived.Test.YtcepdjlknalmnaaGreatDoorSes
import Derived.Test.YtcepdjlknalmnaaGreatDoorScm
import Derived.Test.YtcepdjlknalmnaaGreatDoorMar
namespace Go.Proofs.YtcepdjlknalmnaaGreatDoor
open Go.RowKit
set_option linter.unusedSimpArgs false
set_option linter.unusedVariables false
attribute [local go_sem ↓] Go.wp_at_zero Go.wp_at_succ
end Go.Proofs.YtcepdjlknalmnaaGreatDoor
namespace Go.Proofs.YtcepdjlknalmnaaGreatDoor
open Go.RowKit
set_option linter.unusedSimpArgs false
set_option linter.unusedVariables false
attribute [local go_sem ↓] Go.wp_at_zero Go.wp_at_succ
end Go.Proofs.YtcepdjlknalmnaaGreatDoor
namespace Go.Proofs.YtcepdjlknalmnaaGreatDoor
open Go.RowKit
set_option linter.unusedSimpArgs false
set_option linter.unusedVariables false
def consOf (x : Ssn) : List Con := x.conn ++ x.media.flatMap (fun m => m.conn)
def bareA (a : Adr) : Bool := decide (a.ttl.length + a.rng.length = 0)
def bareC (c : Con) : Bool := c.adrs.all bareA
def bare (x : Ssn) : Bool := (consOf x).all bareC
end Go.Proofs.YtcepdjlknalmnaaGreatDoor
namespace Go.Proofs.YtcepdjlknalmnaaGreatDoor
open Go.RowKit
set_option linter.unusedSimpArgs false
set_option linter.unusedVariables false
end Go.Proofs.YtcepdjlknalmnaaGreatDoor
/- A proper session's text is not too long. Plain. -/
namespace Go.Proofs.YtcepdjlknalmnaaGreatDoor
open Go.RowKit
set_option linter.unusedSimpArgs false
set_option linter.unusedVariables false
theorem ends_len {e : List UInt8} {n : Nat} : ∀ (ls : List (List UInt8)), (∀ l ∈ ls, l.length ≤ n) → (joinEnds e ls).length ≤ ls.length * (n + e.length)
 | [], _ => by simp [joinEnds]
 | l :: ls, h => by
  have h1 := ends_len (e := e) ls (fun x hx => h x (List.mem_cons_of_mem _ hx))
  have h2 := h l (List.mem_cons_self ..)
  have h3 : (joinEnds e (l :: ls)).length = l.length + e.length + (joinEnds e ls).length := by
   simp [joinEnds]; omega
  rw [h3, List.length_cons, Nat.succ_mul]
  omega
theorem join_fit {x : Ssn} {w : World} {v0 v1 v2 v3 v4 v5 v6 v7 v8 v9 v10 : Value} (m : SsnAt w x v0 v1 v2 v3 v4 v5 v6 v7 v8 v9 v10) (hf : fitB1 x = true) (hp : proper x = true) (e : List UInt8) (he : e.length ≤ 2) : (joinEnds e (linesB x)).length ≤ 110000000000000 := by
 obtain ⟨h1, h2⟩ := ssn_fit m hf
 obtain ⟨h3, h4, h5, h6, h7⟩ := lns_ok hp h1
 rw [← lns_text x h7]
 have hw := wts_len (lns x)
 have h := ends_len (e := e) (n := 100000000000) ((lns x).map Ln.text) (fun t ht => by
  obtain ⟨l, hl, rfl⟩ := List.mem_map.1 ht
  exact text_len (h3 l hl) (h2 l hl))
 rw [List.length_map] at h
 have h8 : (lns x).length * (100000000000 + e.length) ≤ 1000 * (100000000000 + 2) := Nat.mul_le_mul (by omega) (by omega)
 omega
end Go.Proofs.YtcepdjlknalmnaaGreatDoor
namespace Go.Proofs.YtcepdjlknalmnaaGreatDoor
open Go.RowKit
set_option linter.unusedSimpArgs false
set_option linter.unusedVariables false
def rowOf (w : World) (g : Nat) : Array Value := match w.heap[g]? with
 | some (.cells c _ _) => c
 | _ => #[]
theorem rowOf_blk {w : World} {g : Nat} {l : List Value} {t : TypeId} (h : Blk w g l t) : rowOf w g = l.toArray := by
 unfold Blk at h
 simp [rowOf, h]
theorem rowOf_drew (w : World) (g : Nat) : rowOf w.drew g = rowOf w g := rfl
def loadOk (w : World) (n : Nat) (t : TypeId) : Value → Bool
 | .pointer (some ⟨g, 0, none⟩) => rowIs w g n t
 | _ => false
theorem loadOk_row (w : World) (n : Nat) (t : TypeId) (g : Nat) : loadOk w n t (.pointer (some ⟨g, 0, none⟩)) = rowIs w g n t := rfl
theorem wp_load33 (d : Option Tmp) (i : Tmp) (ty : TypeId) (pos : String) (after : Array Edge) (gd : Option (Nat × Bool)) (a : Act) (w : World) (K : Act → World → Prop) (Q : Exit → Act → World → Prop)
 (h : loadOk w 19 33 (a.eval (.tmp i)) = true) :
 Oper.wp Tryz.prog ⟨d, .load 33 (.tmp i), ty, pos, after, gd⟩ a w K Q = K (a.put d (.agg (rowOf w (blockOf (a.eval (.tmp i)))))) w := by
 unfold loadOk at h
 split at h
 · rename_i g h1
   unfold rowIs at h
   split at h
   · rename_i c t' fr hg
     simp only [Bool.and_eq_true, beq_iff_eq] at h
     obtain ⟨⟨h3, rfl⟩, rfl⟩ := h
     have hi : (Tryz.prog.info? 33).map (·.size) = some c.size := by rw [h3]; kernel_rfl
     have h2 := run_loadVar_row w g 33 33 c (0, 0) _ hg Tryz.underlying33 rfl hi
     have h4 : rowOf w g = c := by simp [rowOf, hg]
     unfold Oper.wp execOp
     simp only [h1, Instr.loadAt, Instr.sureAddr, Sem.run_bind, Sem.run_pure, Result.andThen_ok, h2, blockOf_ptr, h4]
     rfl
   · cases h
 · cases h
theorem wp_load43 (d : Option Tmp) (i : Tmp) (ty : TypeId) (pos : String) (after : Array Edge) (gd : Option (Nat × Bool)) (a : Act) (w : World) (K : Act → World → Prop) (Q : Exit → Act → World → Prop)
 (h : loadOk w 19 43 (a.eval (.tmp i)) = true) :
 Oper.wp Tryz.prog ⟨d, .load 43 (.tmp i), ty, pos, after, gd⟩ a w K Q = K (a.put d (.agg (rowOf w (blockOf (a.eval (.tmp i)))))) w := by
 unfold loadOk at h
 split at h
 · rename_i g h1
   unfold rowIs at h
   split at h
   · rename_i c t' fr hg
     simp only [Bool.and_eq_true, beq_iff_eq] at h
     obtain ⟨⟨h3, rfl⟩, rfl⟩ := h
     have hi : (Tryz.prog.info? 43).map (·.size) = some c.size := by rw [h3]; kernel_rfl
     have h2 := run_loadVar_row w g 43 43 c (0, 0) _ hg Tryz.underlying43 rfl hi
     have h4 : rowOf w g = c := by simp [rowOf, hg]
     unfold Oper.wp execOp
     simp only [h1, Instr.loadAt, Instr.sureAddr, Sem.run_bind, Sem.run_pure, Result.andThen_ok, h2, blockOf_ptr, h4]
     rfl
   · cases h
 · cases h
abbrev zs33 : List Value := [.int .i64 0, .string ⟨#[]⟩, .int .u64 0, .int .u64 0, .string ⟨#[]⟩, .string ⟨#[]⟩, .string ⟨#[]⟩, .string ⟨#[]⟩, .slice none 0 0, .slice none 0 0, .slice none 0 0, .slice none 0 0, .slice none 0 0, .slice none 0 0, .slice none 0 0, .slice none 0 0, .slice none 0 0, .slice none 0 0, .slice none 0 0]
end Go.Proofs.YtcepdjlknalmnaaGreatDoor
namespace Go.Proofs.YtcepdjlknalmnaaGreatDoor
open Go.RowKit
set_option linter.unusedSimpArgs false
set_option linter.unusedVariables false
theorem one_con {c : Con} (h : conHead c = true) : ∃ a, c.adrs = [a] ∧ a.ttl.length ≤ 1 ∧ a.rng.length ≤ 1 ∧ ∀ n ∈ a.ttl ++ a.rng, 0 ≤ n := by
 unfold conHead at h
 simp only [Bool.and_eq_true] at h
 have h2 := h.2.2
 split at h2
 · rename_i y he
   simp only [Bool.and_eq_true, decide_eq_true_eq] at h2
   obtain ⟨_, h3, h4, h5⟩ := h2
   refine ⟨y, he, h3, h4, fun n hn => ?_⟩
   unfold conTail at h5
   have := List.all_eq_true.1 h5 n hn
   unfold byteI at this
   simp only [Bool.and_eq_true, decide_eq_true_eq] at this
   exact this.1
 · cases h2
theorem con_one {xs : List Con} (h : consOk xs = true) : ConOne xs := by
 have h1 := con_ok h
 refine ⟨h1.1, fun c hc => ?_⟩
 obtain ⟨a, e, h2, h3, _⟩ := one_con (h1.2 c hc)
 exact ⟨a, e, h2, h3⟩
theorem con_pos {xs : List Con} (h : consOk xs = true) : ∀ c ∈ xs, ∀ a ∈ c.adrs, ∀ n ∈ a.ttl ++ a.rng, 0 ≤ n := fun c hc a ha => by
 obtain ⟨b, e, _, _, h4⟩ := one_con ((con_ok h).2 c hc)
 rw [e] at ha
 rw [List.mem_singleton.1 ha]
 exact h4
structure Good (x : Ssn) : Prop where
 mar : MarOk x
 one : SsnOne x
 con : ConOne x.conn
 lens : x.bws.length ≤ 2147483647 ∧ x.atts.length ≤ 2147483647 ∧ x.times.length ≤ 2147483647 ∧ x.zones.length ≤ 2147483647 ∧ x.media.length ≤ 2147483647
 times : ∀ t ∈ x.times, t.reps.length ≤ 2147483647 ∧ ∀ r ∈ t.reps, r.offs.length ≤ 2147483647
 media : ∀ m ∈ x.media, MedTo m
theorem good_of {x : Ssn} {w : World} {v0 v1 v2 v3 v4 v5 v6 v7 v8 v9 v10 : Value} (m : SsnAt w x v0 v1 v2 v3 v4 v5 v6 v7 v8 v9 v10) (hf : fitB1 x = true) (hp : proper x = true) : Good x := by
 obtain ⟨h1, h2⟩ := ssn_fit m hf
 obtain ⟨h3, h4, h5, h6, h7⟩ := lns_ok hp h1
 have hj := join_fit m hf hp [13, 10] (by decide)
 obtain ⟨l1, l2, l3⟩ := fit_lens hf
 rw [← lns_text x h7] at hj
 have hp' := hp
 unfold proper proTail at hp'
 simp only [Bool.and_eq_true, List.all_eq_true] at hp'
 obtain ⟨_, _, hm, _, _, _, _, hc, _⟩ := hp'
 have hmed : ∀ y ∈ x.media, (0 ≤ y.port ∧ ∀ n ∈ y.ports, 0 ≤ n) ∧ (y.protos ≠ [] ∧ y.fmts ≠ []) ∧ y.ports.length ≤ 1 ∧ consOk y.conn = true := fun y hy => by
  have h := hm y hy
  have hc := (med_parts h).2.1
  unfold medB medHead at h
  simp only [Bool.and_eq_true, decide_eq_true_eq, List.all_eq_true] at h
  obtain ⟨⟨_, a1, _, a2, a3, _, a4, _⟩, b1, _⟩ := h
  refine ⟨⟨a1, fun n hn => ?_⟩, ⟨fun e => ?_, fun e => ?_⟩, a2, hc⟩
  · have := b1 n hn
    unfold portB at this
    simp only [Bool.and_eq_true, decide_eq_true_eq] at this
    omega
  · rw [e] at a3; exact absurd a3 (by decide)
  · rw [e] at a4; exact absurd a4 (by decide)
 refine ⟨⟨h7, con_pos hc, fun y hy => ⟨(hmed y hy).1, (hmed y hy).2.1, con_pos (hmed y hy).2.2.2⟩, ?_⟩, h5, con_one hc, l1, l2, fun y hy => ?_⟩
 · unfold jt
   omega
 · obtain ⟨b1, b2, b3, b4⟩ := l3 y hy
   exact ⟨(hmed y hy).2.2.1, (h5.media y hy).1, (h5.media y hy).2.2, con_one (hmed y hy).2.2.2, b1, b2, b3, b4⟩
end Go.Proofs.YtcepdjlknalmnaaGreatDoor

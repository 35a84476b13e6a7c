/- What the lines of a medium do, but for the medium's own. -/
import Derived.Test.YtcepdjlknalmnaaGreatDoorPop
import Derived.Test.YtcepdjlknalmnaaGreatDoorStepE
import Derived.Test.YtcepdjlknalmnaaGreatDoorBwB
import Derived.Test.YtcepdjlknalmnaaGreatDoorLks
namespace Go.Proofs.YtcepdjlknalmnaaGreatDoor
open Go.RowKit
set_option linter.unusedSimpArgs false
set_option linter.unusedVariables false
end Go.Proofs.YtcepdjlknalmnaaGreatDoor
/- A field of the medium that is being read is set; its list of bandwidths grows. Plain. -/
namespace Go.Proofs.YtcepdjlknalmnaaGreatDoor
open Go.RowKit
set_option linter.unusedSimpArgs false
set_option linter.unusedVariables false
namespace PS
variable {B : Nat} {w w' : World} {ρ : Nat → Nat} {L D C : Nat} {s : ByteArray} {p r : Nat} {q : Pst} {V : Vs}
theorem last (h : PS B w ρ L D C s p q V) {y : Med} (hmc : q.mc = some y) : ∃ T c, w.cell? ⟨D, 18, none⟩ = some (.slice (some ⟨T, 0, none⟩) (q.md.length + 1) c) ∧ w.cell? ⟨T, q.md.length, none⟩ = some (.pointer (some ⟨V.m.M, 0, none⟩)) ∧ CurK ρ w B V.m y ∧ T < w.heap.size := by
 obtain ⟨rows, hM⟩ := h.kp.media (fun e => e) (fun e => e) (fun e => e)
 have hlen := hM.len
 rw [hmc] at hlen
 obtain ⟨k1, hC⟩ := hM.last y hmc
 have hlen' : rows.length = q.md.length + 1 := hlen
 obtain ⟨T, c, hv⟩ := Row.form1 hM.row (by omega)
 have hg : V.m.media.ownBlock = some T := by rw [hv]; rfl
 rw [hlen'] at hv
 refine ⟨T, c, ?_, ?_, hC, (hM.row.base T hg).2⟩
 · rw [← hv]; exact h.dd.cell 18 rfl
 · have := hM.row.cell (g := T) (k := q.md.length) (j := 0) hg k1 rfl
   simpa using this
end PS
end Go.Proofs.YtcepdjlknalmnaaGreatDoor
namespace Go.Proofs.YtcepdjlknalmnaaGreatDoor
open Go.RowKit
set_option linter.unusedSimpArgs false
set_option linter.unusedVariables false
attribute [local go_sem ↓] Go.wp_at_zero Go.wp_at_succ
end Go.Proofs.YtcepdjlknalmnaaGreatDoor
/- The parts of a medium's line. Plain laws, and the two tests against lists. -/
namespace Go.Proofs.YtcepdjlknalmnaaGreatDoor
open Go.RowKit
set_option linter.unusedSimpArgs false
set_option linter.unusedVariables false
end Go.Proofs.YtcepdjlknalmnaaGreatDoor

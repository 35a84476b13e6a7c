/- The closed facts of the row of FnUnknown. -/
import Derived.Test.YtcepdjlknalmnaaGreatDoorRows
import Derived.ProofKit
import Derived.OpenShut
import Derived.Deep.DeepHandedRow
namespace Go.Proofs.YtcepdjlknalmnaaGreatDoor
set_option maxRecDepth 100000 in
set_option maxHeartbeats 40000000 in
theorem uk_facts : joinedFacts Tryz.prog 3 Tryz.f3 Rows.fnUnknownSpec Rows.fnUnknownUptoRow = true := by
  unfold joinedFacts
  simp only [Bool.and_eq_true]
  refine ⟨⟨⟨⟨⟨⟨⟨⟨⟨⟨⟨⟨⟨⟨⟨⟨⟨⟨⟨⟨⟨⟨⟨⟨⟨⟨⟨⟨⟨⟨⟨?_, ?_⟩, ?_⟩, ?_⟩, ?_⟩, ?_⟩, ?_⟩, ?_⟩, ?_⟩, ?_⟩, ?_⟩, ?_⟩, ?_⟩, ?_⟩, ?_⟩, ?_⟩, ?_⟩, ?_⟩, ?_⟩, ?_⟩, ?_⟩, ?_⟩, ?_⟩, ?_⟩, ?_⟩, ?_⟩, ?_⟩, ?_⟩, ?_⟩, ?_⟩, ?_⟩, ?_⟩
  all_goals (as_aux_lemma => kernel_rfl)
end Go.Proofs.YtcepdjlknalmnaaGreatDoor

/- The closed facts of the row of FnUnmarshal. -/
import Derived.Test.YtcepdjlknalmnaaGreatDoorRows
import Derived.ProofKit
import Derived.OpenShut
import Derived.Deep.DeepHandedRow
namespace Go.Proofs.YtcepdjlknalmnaaGreatDoor
set_option maxRecDepth 100000 in
set_option maxHeartbeats 40000000 in
theorem um_facts : joinedFacts Tryz.prog 4 Tryz.f4 Rows.fnUnmarshalSpec Rows.fnUnmarshalRow = true := by
  unfold joinedFacts
  simp only [Bool.and_eq_true]
  refine ⟨⟨⟨⟨⟨⟨⟨⟨⟨⟨⟨⟨⟨⟨⟨⟨⟨⟨⟨⟨⟨⟨⟨⟨⟨⟨⟨⟨⟨⟨⟨?_, ?_⟩, ?_⟩, ?_⟩, ?_⟩, ?_⟩, ?_⟩, ?_⟩, ?_⟩, ?_⟩, ?_⟩, ?_⟩, ?_⟩, ?_⟩, ?_⟩, ?_⟩, ?_⟩, ?_⟩, ?_⟩, ?_⟩, ?_⟩, ?_⟩, ?_⟩, ?_⟩, ?_⟩, ?_⟩, ?_⟩, ?_⟩, ?_⟩, ?_⟩, ?_⟩, ?_⟩
  all_goals (as_aux_lemma => kernel_rfl)
end Go.Proofs.YtcepdjlknalmnaaGreatDoor

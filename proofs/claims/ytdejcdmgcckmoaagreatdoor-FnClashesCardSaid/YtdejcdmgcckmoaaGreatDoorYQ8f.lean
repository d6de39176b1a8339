/- A part of the proof: Q8f. -/
import Derived.Test.YtdejcdmgcckmoaaGreatDoorRows
import Derived.ProofKit
import Derived.JoinedCond
namespace Go.Proofs.YtdejcdmgcckmoaaGreatDoor

set_option maxRecDepth 100000 in
set_option maxHeartbeats 4000000 in
theorem fnClashes_facts : joinedFacts Tryz.pinned.checked.prog 8 Tryz.f8 (OpenSpec.ofChange Rows.fnClashesSpec).bare Rows.fnClashesRow = true := by
  unfold joinedFacts
  repeat' (with_reducible refine Bool.and_eq_true_iff.2 ⟨?_, ?_⟩)
  all_goals (as_aux_lemma => kernel_rfl)
end Go.Proofs.YtdejcdmgcckmoaaGreatDoor

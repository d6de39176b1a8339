/- A part of the proof: Q7f. -/
import Derived.Test.YtdejcdmgcckmoaaGreatDoorRows
import Derived.ProofKit
import Derived.JoinedCond
namespace Go.Proofs.YtdejcdmgcckmoaaGreatDoor

set_option maxRecDepth 100000 in
set_option maxHeartbeats 4000000 in
theorem fnReduced_facts : joinedFacts Tryz.pinned.checked.prog 7 Tryz.f7 (OpenSpec.ofChange Rows.fnReducedSpec).bare Rows.fnReducedRow = true := by
  unfold joinedFacts
  repeat' (with_reducible refine Bool.and_eq_true_iff.2 ⟨?_, ?_⟩)
  all_goals (as_aux_lemma => kernel_rfl)
end Go.Proofs.YtdejcdmgcckmoaaGreatDoor

/- A part of the proof: Q6f. -/
import Derived.Test.YtdejcdmgcckmoaaGreatDoorRows
import Derived.ProofKit
import Derived.JoinedCond
namespace Go.Proofs.YtdejcdmgcckmoaaGreatDoor

set_option maxRecDepth 100000 in
set_option maxHeartbeats 4000000 in
theorem fnAccepts_facts : joinedFacts Tryz.pinned.checked.prog 6 Tryz.f6 (OpenSpec.ofChange Rows.fnAcceptsSpec).bare Rows.fnAcceptsRow = true := by
  unfold joinedFacts
  repeat' (with_reducible refine Bool.and_eq_true_iff.2 ⟨?_, ?_⟩)
  all_goals (as_aux_lemma => kernel_rfl)
end Go.Proofs.YtdejcdmgcckmoaaGreatDoor

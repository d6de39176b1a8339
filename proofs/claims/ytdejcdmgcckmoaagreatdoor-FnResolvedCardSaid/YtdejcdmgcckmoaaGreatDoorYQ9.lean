/- A part of the proof: Q9. -/
import Derived.Test.YtdejcdmgcckmoaaGreatDoorCards
import Derived.Test.YtdejcdmgcckmoaaGreatDoorTie
import Derived.ProofKit
import Derived.OpenShut
import Derived.Carry
import Derived.Test.YtdejcdmgcckmoaaGreatDoorYSS
import Derived.Test.YtdejcdmgcckmoaaGreatDoorYPP
import Derived.Test.YtdejcdmgcckmoaaGreatDoorYK
import Derived.Test.YtdejcdmgcckmoaaGreatDoorYQ9f
namespace Go.Proofs.YtdejcdmgcckmoaaGreatDoor
open Go.ChangeShapes Go.WideShapes Go.RowKit Lr

theorem laidOut9 : laidOutB Tryz.prog = true := by kernel_rfl

set_option maxRecDepth 100000 in
/-- What the walk gives, for every argument and every world. -/
theorem fnResolved_contract (H : Type) (enc : TypeId × Value → H) (W : World) (base : Nat) (args : Array Value) (ds gs : List (DataW H)) (before : List MemPlace)
    (hval : ∀ (j : Nat) t v, Tryz.f9.params[j]? = some t → args[j]? = some v → Value.okWide Tryz.prog W .any base t v)
    (hW : DataW.Whole enc Tryz.prog Tryz.f9.params.toList Rows.fnResolvedSpec.vars false W args.toList ds gs before) (hL : laidMet Tryz.prog Rows.fnResolvedRow.laid W) :
    Calls Tryz.prog 9 args W fun e W' => ∃ v, e = .returned v ∧ Rows.fnResolvedSpec.post enc Tryz.prog Tryz.f9 false true false false W args v W' := by
  have hW' := hW
  obtain ⟨p, q, hA0, hV, rfl, hfz, hnd⟩ := hW
  have hA : DataW.TrodAll enc Tryz.prog W 0 (fun _ => true) true Tryz.f9.params.toList args.toList ds p := hA0
  rw [Tryz.params9] at hA hval
  obtain ⟨v0, d0, rfl, rfl, h0⟩ := trodAll_one hA
  obtain ⟨rfl, rfl⟩ := trodVars_none hV
  have hv0 := hval 0 22 v0 (by simp) (by simp)
  obtain ⟨a, len, cap, rfl⟩ := okWide_slice Tryz.underlying22 hv0
  have h0k := h0
  obtain ⟨n, ht⟩ := h0
  obtain ⟨g, hg, hf⟩ := gram_of_trod ht
  have hlt : ∀ x ∈ p, x.block < W.heap.size := fun x hx => hW'.lt x (List.mem_append.2 (.inl hx))
  refine (FnResolved_any _ g W hg hf (tabW_of hL (.tail _ (.tail _ (.head _))))).mono fun e W' ⟨he, hn⟩ => ?_
  subst he
  refine ⟨_, rfl, _, _, _, [], p, [], hW', ?_, ?_, ?_, Below.frame hn _, fun h => by cases h⟩
  · exact trodAll_mk1 (shut_bool Tryz.underlying4 true)
  · exact trodAll_mk1 (Below.trod laidOut9 (by kernel_rfl) (of_decide_eq_true (by kernel_rfl)) h0k hn hlt)
  · rfl

theorem fnResolved_reads (os : Os) {H : Type} (enc : TypeId × Value → H) : ∃ places, DataW.whole enc Tryz.prog (wit os #[.slice none 0 0]) Tryz.f9.params.toList Rows.fnResolvedSpec.vars false #[Value.slice none 0 0].toList 8 = some ([.nil], [], places) :=
  ⟨[], by kernel_rfl⟩

set_option maxRecDepth 100000 in
theorem fnResolved_lifted (os : Os) (started : os.Started) (H : Type) (enc : TypeId × Value → H) (F : Stop.Interp) :
    ReturnsInHanded {} Tryz.checked os 9 .any ((OpenSpec.ofChange Rows.fnResolvedSpec).preRow enc Tryz.prog Tryz.f9 Rows.fnResolvedRow.domain false Rows.fnResolvedRow.laid) (((OpenSpec.ofChange Rows.fnResolvedSpec).at F).post enc Tryz.prog Tryz.f9 false true false false) := by
  obtain ⟨places, hx⟩ := fnResolved_reads os enc
  refine returnsInHanded_of_row (C := Tryz.checked) (s := OpenSpec.ofChange Rows.fnResolvedSpec) own started (by kernel_rfl) Tryz.func9
    (witness_row_atRef (enc := enc) (C := Tryz.checked) false (laidWorld os) #[.slice none 0 0] rfl (by kernel_rfl) (by kernel_rfl) (by kernel_rfl)
      (OpenSpec.preRow_of_cond 8 hx (by kernel_rfl) (fun k hk => by cases hk) (by kernel_rfl) (laid_met os _))) ?_
  intro W base args ds gs before hval hW _ _ _ hL _ _
  exact fnResolved_contract H enc W base args ds gs before hval hW hL

theorem fnResolved_said : Rows.FnResolvedSaid :=
  OpenClaim.holds_of_cond 9 Tryz.f9 rfl rfl rfl rfl rfl rfl rfl ⟨rfl, rfl, rfl, rfl, rfl⟩ rfl rfl rfl rfl rfl (by kernel_rfl) Tryz.func9 fnResolved_facts
    (of_decide_eq_true (by kernel_rfl)) (by unfold Func.isWrapper; first | (rw [if_pos (by decide +kernel)]; kernel_rfl) | (rw [if_neg (by decide +kernel)]; exact ⟨rfl, rfl⟩))
    (fun os started H enc _ F => by rw [OpenClaim.pre_eq_preRow]; exact fnResolved_lifted os started H enc F)

/-- No parameter wants a stand-in. -/
theorem fnResolved_plain (f : FuncId) (fn : Func) (hf : Tryz.pinned.checked.prog.funcNamed "loop.example/pub-g03151/laws.FnResolved" = some f) (hfn : Tryz.pinned.checked.prog.funcs[f]? = some fn) :
    true = Tryz.pinned.checked.prog.looks [] ∧ ∀ (j : Nat) t, fn.params[j]? = some t → Tryz.pinned.checked.prog.wantsStandIn t = false := by
  obtain rfl : f = 9 := Option.some.inj ((show Tryz.prog.funcNamed "loop.example/pub-g03151/laws.FnResolved" = some 9 by kernel_rfl).symm.trans hf) |>.symm
  obtain rfl : fn = Tryz.f9 := (Option.some.inj (Tryz.func9.symm.trans hfn)).symm
  refine ⟨by kernel_rfl, fun j t ht => ?_⟩
  rw [Tryz.params9] at ht
  obtain rfl : t = 22 := by simpa using Array.mem_of_getElem? ht
  exact (show Tryz.prog.wantsStandIn 22 = false by kernel_rfl)

theorem fnResolved_card : Rows.FnResolvedCardSaid :=
  Claim7.holds_tied_plain_at .later [] _ _ _ _ fnResolved_said (fun _ h => by cases h) (by kernel_rfl) (fun _ h => by cases h) fnResolved_row_tie rfl ⟨rfl, rfl⟩ (by kernel_rfl) rfl fnResolved_plain (by kernel_rfl)
end Go.Proofs.YtdejcdmgcckmoaaGreatDoor

/- A part of the proof: Q7. -/
import Derived.Test.YtdejcdmgcckmoaaGreatDoorCards
import Derived.Test.YtdejcdmgcckmoaaGreatDoorTie
import Derived.ProofKit
import Derived.OpenShut
import Derived.Carry
import Derived.Test.YtdejcdmgcckmoaaGreatDoorYUI
import Derived.Test.YtdejcdmgcckmoaaGreatDoorYPP
import Derived.Test.YtdejcdmgcckmoaaGreatDoorYK
import Derived.Test.YtdejcdmgcckmoaaGreatDoorYQ7f
namespace Go.Proofs.YtdejcdmgcckmoaaGreatDoor
open Go.ChangeShapes Go.WideShapes Go.RowKit Lr

theorem laidOut7 : laidOutB Tryz.prog = true := by kernel_rfl

set_option maxRecDepth 100000 in
/-- What the walk gives, for every argument and every world. -/
theorem fnReduced_contract (H : Type) (enc : TypeId × Value → H) (W : World) (base : Nat) (args : Array Value) (ds gs : List (DataW H)) (before : List MemPlace)
    (hval : ∀ (j : Nat) t v, Tryz.f7.params[j]? = some t → args[j]? = some v → Value.okWide Tryz.prog W .any base t v)
    (hW : DataW.Whole enc Tryz.prog Tryz.f7.params.toList Rows.fnReducedSpec.vars false W args.toList ds gs before) (hL : laidMet Tryz.prog Rows.fnReducedRow.laid W) :
    Calls Tryz.prog 7 args W fun e W' => ∃ v, e = .returned v ∧ Rows.fnReducedSpec.post enc Tryz.prog Tryz.f7 false true false false W args v W' := by
  have hW' := hW
  obtain ⟨p, q, hA0, hV, rfl, hfz, hnd⟩ := hW
  have hA : DataW.TrodAll enc Tryz.prog W 0 (fun _ => true) true Tryz.f7.params.toList args.toList ds p := hA0
  rw [Tryz.params7] at hA hval
  obtain ⟨v0, v1, d0, d1, p0, p1, rfl, rfl, rfl, h0, h1⟩ := trodAll_two hA
  obtain ⟨rfl, rfl⟩ := trodVars_none hV
  have hv0 := hval 0 22 v0 (by simp) (by simp)
  have hv1 := hval 1 24 v1 (by simp) (by simp)
  obtain ⟨a, len, cap, rfl⟩ := okWide_slice Tryz.underlying22 hv0
  obtain ⟨a1, len1, cap1, rfl⟩ := okWide_slice Tryz.underlying24 hv1
  have h0k := h0
  have h1k := h1
  obtain ⟨n, ht⟩ := h0
  obtain ⟨n1, ht1⟩ := h1
  obtain ⟨g, hg, hf⟩ := gram_of_trod ht
  obtain ⟨word, hw, hwl, _⟩ := strs_of_trod ht1
  have hlt : ∀ x ∈ p0 ++ p1, x.block < W.heap.size := fun x hx => hW'.lt x (List.mem_append.2 (.inl hx))
  refine (FnReduced_any _ _ g word W hg hf hw hwl (tabW_of hL (.tail _ (.tail _ (.head _))))).mono fun e W' ⟨he, hn⟩ => ?_
  subst he
  refine ⟨_, rfl, _, _, _, [], p0 ++ p1, [], hW', ?_, ?_, ?_, Below.frame hn _, fun h => by cases h⟩
  · exact trodAll_mk1 (shut_bool Tryz.underlying4 true)
  · exact trodAll_mk2 (Below.trod laidOut7 (by kernel_rfl) (of_decide_eq_true (by kernel_rfl)) h0k hn fun x hx => hlt x (List.mem_append.2 (.inl hx))) (Below.trod laidOut7 (by kernel_rfl) (of_decide_eq_true (by kernel_rfl)) h1k hn fun x hx => hlt x (List.mem_append.2 (.inr hx)))
  · rfl


theorem fnReduced_reads (os : Os) {H : Type} (enc : TypeId × Value → H) : ∃ places, DataW.whole enc Tryz.prog (wit os #[.slice none 0 0, .slice none 0 0]) Tryz.f7.params.toList Rows.fnReducedSpec.vars false #[Value.slice none 0 0, Value.slice none 0 0].toList 8 = some ([.nil, .nil], [], places) :=
  ⟨[], by kernel_rfl⟩

set_option maxRecDepth 100000 in
theorem fnReduced_lifted (os : Os) (started : os.Started) (H : Type) (enc : TypeId × Value → H) (F : Stop.Interp) :
    ReturnsInHanded {} Tryz.checked os 7 .any ((OpenSpec.ofChange Rows.fnReducedSpec).preRow enc Tryz.prog Tryz.f7 Rows.fnReducedRow.domain false Rows.fnReducedRow.laid) (((OpenSpec.ofChange Rows.fnReducedSpec).at F).post enc Tryz.prog Tryz.f7 false true false false) := by
  obtain ⟨places, hx⟩ := fnReduced_reads os enc
  refine returnsInHanded_of_row (C := Tryz.checked) (s := OpenSpec.ofChange Rows.fnReducedSpec) own started (by kernel_rfl) Tryz.func7
    (witness_row_atRef (enc := enc) (C := Tryz.checked) false (laidWorld os) #[.slice none 0 0, .slice none 0 0] rfl (by kernel_rfl) (by kernel_rfl) (by kernel_rfl)
      (OpenSpec.preRow_of_cond 8 hx (by kernel_rfl) (fun k hk => by cases hk) (by kernel_rfl) (laid_met os _))) ?_
  intro W base args ds gs before hval hW _ _ _ hL _ _
  exact fnReduced_contract H enc W base args ds gs before hval hW hL

theorem fnReduced_said : Rows.FnReducedSaid :=
  OpenClaim.holds_of_cond 7 Tryz.f7 rfl rfl rfl rfl rfl rfl rfl ⟨rfl, rfl, rfl, rfl, rfl⟩ rfl rfl rfl rfl rfl (by kernel_rfl) Tryz.func7 fnReduced_facts
    (of_decide_eq_true (by kernel_rfl)) (by unfold Func.isWrapper; first | (rw [if_pos (by decide +kernel)]; kernel_rfl) | (rw [if_neg (by decide +kernel)]; exact ⟨rfl, rfl⟩))
    (fun os started H enc _ F => by rw [OpenClaim.pre_eq_preRow]; exact fnReduced_lifted os started H enc F)

/-- No parameter wants a stand-in. -/
theorem fnReduced_plain (f : FuncId) (fn : Func) (hf : Tryz.pinned.checked.prog.funcNamed "loop.example/pub-g03151/laws.FnReduced" = some f) (hfn : Tryz.pinned.checked.prog.funcs[f]? = some fn) :
    true = Tryz.pinned.checked.prog.looks [] ∧ ∀ (j : Nat) t, fn.params[j]? = some t → Tryz.pinned.checked.prog.wantsStandIn t = false := by
  obtain rfl : f = 7 := Option.some.inj ((show Tryz.prog.funcNamed "loop.example/pub-g03151/laws.FnReduced" = some 7 by kernel_rfl).symm.trans hf) |>.symm
  obtain rfl : fn = Tryz.f7 := (Option.some.inj (Tryz.func7.symm.trans hfn)).symm
  refine ⟨by kernel_rfl, fun j t ht => ?_⟩
  rw [Tryz.params7] at ht
  obtain rfl | rfl : t = 22 ∨ t = 24 := by simpa using Array.mem_of_getElem? ht
  · exact (show Tryz.prog.wantsStandIn 22 = false by kernel_rfl)
  · exact (show Tryz.prog.wantsStandIn 24 = false by kernel_rfl)

theorem fnReduced_card : Rows.FnReducedCardSaid :=
  Claim7.holds_tied_plain_at .later [] _ _ _ _ fnReduced_said (fun _ h => by cases h) (by kernel_rfl) (fun _ h => by cases h) fnReduced_row_tie rfl ⟨rfl, rfl⟩ (by kernel_rfl) rfl fnReduced_plain (by kernel_rfl)
end Go.Proofs.YtdejcdmgcckmoaaGreatDoor

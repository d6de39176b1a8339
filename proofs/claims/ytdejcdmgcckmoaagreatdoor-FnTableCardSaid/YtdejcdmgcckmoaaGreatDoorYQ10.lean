/- A part of the proof: Q10. -/
import Derived.Test.YtdejcdmgcckmoaaGreatDoorCards
import Derived.Test.YtdejcdmgcckmoaaGreatDoorTie
import Derived.ProofKit
import Derived.OpenShut
import Derived.Carry
import Derived.Test.YtdejcdmgcckmoaaGreatDoorYTT
import Derived.Test.YtdejcdmgcckmoaaGreatDoorYPP
import Derived.Test.YtdejcdmgcckmoaaGreatDoorYK
import Derived.Test.YtdejcdmgcckmoaaGreatDoorYQ10f
namespace Go.Proofs.YtdejcdmgcckmoaaGreatDoor
open Go.ChangeShapes Go.WideShapes Go.RowKit Lr

theorem laidOut10 : laidOutB Tryz.prog = true := by kernel_rfl

set_option maxRecDepth 100000 in
/-- What the walk gives, for every argument and every world. -/
theorem fnTable_contract (H : Type) (enc : TypeId × Value → H) (W : World) (base : Nat) (args : Array Value) (ds gs : List (DataW H)) (before : List MemPlace)
    (hval : ∀ (j : Nat) t v, Tryz.f10.params[j]? = some t → args[j]? = some v → Value.okWide Tryz.prog W .any base t v)
    (hW : DataW.Whole enc Tryz.prog Tryz.f10.params.toList Rows.fnTableSpec.vars false W args.toList ds gs before) (hL : laidMet Tryz.prog Rows.fnTableRow.laid W) :
    Calls Tryz.prog 10 args W fun e W' => ∃ v, e = .returned v ∧ Rows.fnTableSpec.post enc Tryz.prog Tryz.f10 false true false false W args v W' := by
  have hW' := hW
  obtain ⟨p, q, hA0, hV, rfl, hfz, hnd⟩ := hW
  have hA : DataW.TrodAll enc Tryz.prog W 0 (fun _ => true) true Tryz.f10.params.toList args.toList ds p := hA0
  rw [Tryz.params10] at hA hval
  obtain ⟨v0, d0, rfl, rfl, h0⟩ := trodAll_one hA
  obtain ⟨rfl, rfl⟩ := trodVars_none hV
  have hv0 := hval 0 22 v0 (by simp) (by simp)
  obtain ⟨a, len, cap, rfl⟩ := okWide_slice Tryz.underlying22 hv0
  have h0k := h0
  obtain ⟨n, ht⟩ := h0
  obtain ⟨g, hg, hf⟩ := gram_of_trod ht
  have hlt : ∀ x ∈ p, x.block < W.heap.size := fun x hx => hW'.lt x (List.mem_append.2 (.inl hx))
  refine (FnTable_any _ g W hg hf (tabW_of hL (.tail _ (.tail _ (.head _))))).mono fun e W' ⟨he, hn⟩ => ?_
  subst he
  refine ⟨_, rfl, _, _, _, [], p, [], hW', ?_, ?_, ?_, Below.frame hn _, fun h => by cases h⟩
  · exact trodAll_mk1 (shut_bool Tryz.underlying4 true)
  · exact trodAll_mk1 (Below.trod laidOut10 (by kernel_rfl) (of_decide_eq_true (by kernel_rfl)) h0k hn hlt)
  · rfl

theorem fnTable_reads (os : Os) {H : Type} (enc : TypeId × Value → H) : ∃ places, DataW.whole enc Tryz.prog (wit os #[.slice none 0 0]) Tryz.f10.params.toList Rows.fnTableSpec.vars false #[Value.slice none 0 0].toList 8 = some ([.nil], [], places) :=
  ⟨[], by kernel_rfl⟩

set_option maxRecDepth 100000 in
theorem fnTable_lifted (os : Os) (started : os.Started) (H : Type) (enc : TypeId × Value → H) (F : Stop.Interp) :
    ReturnsInHanded {} Tryz.checked os 10 .any ((OpenSpec.ofChange Rows.fnTableSpec).preRow enc Tryz.prog Tryz.f10 Rows.fnTableRow.domain false Rows.fnTableRow.laid) (((OpenSpec.ofChange Rows.fnTableSpec).at F).post enc Tryz.prog Tryz.f10 false true false false) := by
  obtain ⟨places, hx⟩ := fnTable_reads os enc
  refine returnsInHanded_of_row (C := Tryz.checked) (s := OpenSpec.ofChange Rows.fnTableSpec) own started (by kernel_rfl) Tryz.func10
    (witness_row_atRef (enc := enc) (C := Tryz.checked) false (laidWorld os) #[.slice none 0 0] rfl (by kernel_rfl) (by kernel_rfl) (by kernel_rfl)
      (OpenSpec.preRow_of_cond 8 hx (by kernel_rfl) (fun k hk => by cases hk) (by kernel_rfl) (laid_met os _))) ?_
  intro W base args ds gs before hval hW _ _ _ hL _ _
  exact fnTable_contract H enc W base args ds gs before hval hW hL

theorem fnTable_said : Rows.FnTableSaid :=
  OpenClaim.holds_of_cond 10 Tryz.f10 rfl rfl rfl rfl rfl rfl rfl ⟨rfl, rfl, rfl, rfl, rfl⟩ rfl rfl rfl rfl rfl (by kernel_rfl) Tryz.func10 fnTable_facts
    (of_decide_eq_true (by kernel_rfl)) (by unfold Func.isWrapper; first | (rw [if_pos (by decide +kernel)]; kernel_rfl) | (rw [if_neg (by decide +kernel)]; exact ⟨rfl, rfl⟩))
    (fun os started H enc _ F => by rw [OpenClaim.pre_eq_preRow]; exact fnTable_lifted os started H enc F)

/-- No parameter wants a stand-in. -/
theorem fnTable_plain (f : FuncId) (fn : Func) (hf : Tryz.pinned.checked.prog.funcNamed "loop.example/pub-g03151/laws.FnTable" = some f) (hfn : Tryz.pinned.checked.prog.funcs[f]? = some fn) :
    true = Tryz.pinned.checked.prog.looks [] ∧ ∀ (j : Nat) t, fn.params[j]? = some t → Tryz.pinned.checked.prog.wantsStandIn t = false := by
  obtain rfl : f = 10 := Option.some.inj ((show Tryz.prog.funcNamed "loop.example/pub-g03151/laws.FnTable" = some 10 by kernel_rfl).symm.trans hf) |>.symm
  obtain rfl : fn = Tryz.f10 := (Option.some.inj (Tryz.func10.symm.trans hfn)).symm
  refine ⟨by kernel_rfl, fun j t ht => ?_⟩
  rw [Tryz.params10] at ht
  obtain rfl : t = 22 := by simpa using Array.mem_of_getElem? ht
  exact (show Tryz.prog.wantsStandIn 22 = false by kernel_rfl)

theorem fnTable_card : Rows.FnTableCardSaid :=
  Claim7.holds_tied_plain_at .later [] _ _ _ _ fnTable_said (fun _ h => by cases h) (by kernel_rfl) (fun _ h => by cases h) fnTable_row_tie rfl ⟨rfl, rfl⟩ (by kernel_rfl) rfl fnTable_plain (by kernel_rfl)
end Go.Proofs.YtdejcdmgcckmoaaGreatDoor

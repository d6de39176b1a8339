/- A part of the proofs about gocc: S2. -/
import Derived.Test.YtdejcdmgcckmoaaGreatDoorXS1
import Derived.Test.YtdejcdmgcckmoaaGreatDoorXW11
namespace Go.Proofs.YtdejcdmgcckmoaaGreatDoor
open Go.RowKit Lr

section
variable {P : Program} {md : Region.Mode} {ops : Array Oper} {Q : Exit → Act → World → Prop}
theorem ready_mem {listed : Array Bool} {i : Nat} (h : i ∈ Region.ready md ops listed) : i < ops.size ∧ listed.getD i true = false := by
  simp only [Region.ready, List.mem_filter, List.mem_range, Bool.and_eq_true, Bool.not_eq_true'] at h
  exact ⟨h.1, h.2.1⟩
/-- A region that draws its order, by what holds whichever operations have been done. -/
theorem wpAny_inv {I : Array Bool → Act → World → Prop} (hstep : ∀ listed a w, listed.size = ops.size → I listed a w → ∀ i ∈ Region.ready md ops listed, wpOp P ops Q i (I (listed.setIfInBounds i true)) a w)
    (hdone : ∀ listed a w, listed.size = ops.size → I listed a w → Region.ready md ops listed = [] → Q .normal a w) :
    ∀ (fuel : Nat) (listed : Array Bool) (a : Act) (w : World), I listed a w → listed.size = ops.size → listed.toList.countP (· == false) ≤ fuel → wpAny P md ops Q fuel listed a w
  | 0, listed, a, w, hI, hs, hc => by
    have hr : Region.ready md ops listed = [] := by
      cases hr : Region.ready md ops listed with
      | nil => rfl
      | cons i r =>
        obtain ⟨h1, h2⟩ := ready_mem (md := md) (ops := ops) (listed := listed) (i := i) (by rw [hr]; exact List.mem_cons_self ..)
        rw [← hs] at h1
        have h0 : listed.toList.countP (· == false) = 0 := by omega
        rw [List.countP_eq_zero] at h0
        have := h0 listed[i] (by simp)
        rw [Array.getD_eq_getD_getElem?, Array.getElem?_eq_getElem h1] at h2
        simp at h2
        simp [h2] at this
    exact ⟨hr, hdone listed a w hs hI hr⟩
  | fuel + 1, listed, a, w, hI, hs, hc => by
    refine ⟨fun hr => hdone listed a w hs hI hr, fun i hi => ?_⟩
    obtain ⟨h1, h2⟩ := ready_mem hi
    rw [← hs] at h1
    rw [Array.getD_eq_getD_getElem?, Array.getElem?_eq_getElem h1] at h2
    simp only [Option.getD_some] at h2
    refine wpOp_mono (fun a w hI' => wpAny_inv hstep hdone fuel _ a w hI' (by simpa using hs) ?_) (hstep listed a w hs hI i hi)
    have e : (listed.setIfInBounds i true).toList = listed.toList.set i true := by simp
    rw [e, List.countP_set (by simpa using h1)]
    have h3 : listed.toList[i]'(by simpa using h1) = false := by simpa using h2
    simp only [h3]
    have h4 : 0 < listed.toList.countP (· == false) := by
      rw [List.countP_pos_iff]
      exact ⟨false, by rw [← h3]; exact List.getElem_mem _, rfl⟩
    have e1 : ((false : Bool) == false) = true := rfl
    have e2 : ((true : Bool) == false) = false := rfl
    rw [e1, e2]
    simp only [if_true, Bool.false_eq_true, if_false]
    omega
end
end Go.Proofs.YtdejcdmgcckmoaaGreatDoor

/- A part of the proofs about gocc: F7. -/
import Derived.Test.YtdejcdmgcckmoaaGreatDoorXF6
namespace Go.Proofs.YtdejcdmgcckmoaaGreatDoor
open Go.RowKit Lr

/-- The first set of a symbol. -/
def firstF (sg : Str → Option (Nat × (Str → Bool))) (nk : List Str) (s t : Str) : Bool := if has nk s then tau sg s t else decide (t = s)

set_option maxRecDepth 20000 in
set_option maxHeartbeats 1000000 in
theorem First_any {w : World} {B p M n ps Bs m1 m2 m3 ns : Nat} {r2 r4 r5 : Value} {tm nt nk : List Str} {sg : Str → Option (Nat × (Str → Bool))} (h : FsSt w B p M (.pointer (some ⟨ps, 0, none⟩)) sg n) (st : SymSt w Bs ps m1 m2 m3 r2 r4 r5 tm nt nk ns) (s : Str) (hs : s.length ≤ 1000000) :
    Calls Tryz.prog 171 #[.pointer (some ⟨p, 0, none⟩), sv s] w fun e w' => ∃ v, e = .returned v ∧ SetV w' v (n + 1) (firstF sg nk s) ∧ (∀ b, v = .map (some b) → (∃ A q, sg A = some q ∧ b = q.1) ∨ w.heap.size ≤ b) ∧ New w w' := by
  have c0 := cell_of_blk h.blk 1
  simp only [List.getElem?_toArray, List.getElem?_cons_zero, List.getElem?_cons_succ] at c0
  have hq1 := Lib.hid (IsTerminal_any st s hs)
  have hq2 := Lib.hid (GetSet_any h s hs)
  unfold firstF
  have hmm := @run_makeMap Tryz.prog
  cases hh : has nk s with
  | true =>
    rw [hh] at hq1
    clear hh h st
    simp only [if_true]
    go_enter Tryz.func171, Tryz.ntmps171
    go_wp2_with (first | (go_at_call 100; refine hq1.out.mono ?_; rintro e w' ⟨rfl, rfl⟩) | (go_at_call 57; refine hq2.out.mono ?_; rintro e w' ⟨v, rfl, hv, hb, rfl⟩))
    go_ret
    exact ⟨v, rfl, hv.mono (by omega), fun b e => by obtain ⟨q, h1, h2⟩ := hb b e; exact .inl ⟨s, q, h1, h2⟩, New.refl _⟩
  | false =>
    rw [hh] at hq1
    clear hh h st
    simp only [Bool.false_eq_true, if_false]
    have hnew : SetF (w.alloc (.map #[] 0)) w.heap.size 0 (fun _ => false) := MapF.made w
    go_enter Tryz.func171, Tryz.ntmps171
    go_wp2_with (first
      | (go_at_call 100; refine hq1.out.mono ?_; rintro e w' ⟨rfl, rfl⟩)
      | (refine wpList_minsert (w.alloc (.map #[] 0)) rfl _ _ _ _ _ rfl Tryz.underlying9 Tryz.underlying82 w.heap.size 0 (bitF fun _ => false) rfl hnew (by omega) s rfl (by omega) (.bool true) rfl ?_))
    intro w2 hS hg
    rw [bitF_put] at hS
    go_wp2
    go_ret
    refine ⟨_, rfl, .inr ⟨_, rfl, ?_⟩, fun b e => .inr (by cases e; exact Nat.le_refl _), Below.grown ((New.refl w).alloc (.map #[] 0)) hg (by simp) (fun k hk => by injection hk with hk; omega)⟩
    have e : (fun t => decide (t = s) || false) = fun t => decide (t = s) := by funext t; simp
    rw [e] at hS
    exact hS.mono (by omega)
end Go.Proofs.YtdejcdmgcckmoaaGreatDoor

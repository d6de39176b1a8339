/- A part of the proofs about gocc: F4. -/
import Derived.Test.YtdejcdmgcckmoaaGreatDoorXF3
namespace Go.Proofs.YtdejcdmgcckmoaaGreatDoor
open Go.RowKit Lr

/-- Block r is none of the first sets' own. -/
def FsOff (M : Nat) (sg : Str → Option (Nat × (Str → Bool))) (r : Nat) : Prop := r ≠ M ∧ ∀ A q, sg A = some q → r ≠ q.1
def putS (sg : Str → Option (Nat × (Str → Bool))) (A : Str) (q : Nat × (Str → Bool)) : Str → Option (Nat × (Str → Bool)) := fun A' => if A' = A then some q else sg A'
theorem putS_map (sg : Str → Option (Nat × (Str → Bool))) (A : Str) (q : Nat × (Str → Bool)) : putF (fun A => (sg A).map fun q => Value.map (some q.1)) A (.map (some q.1)) = fun A' => (putS sg A q A').map fun q => Value.map (some q.1) := by
  funext A'
  unfold putF putS
  by_cases h : A' = A <;> simp [h]

theorem putS_putS (sg : Str → Option (Nat × (Str → Bool))) (A : Str) (q q' : Nat × (Str → Bool)) : putS (putS sg A q) A q' = putS sg A q' := by
  funext A'
  unfold putS
  by_cases h : A' = A <;> simp [h]
theorem tau_put (sg : Str → Option (Nat × (Str → Bool))) (A t : Str) (m : Nat) (S : Str → Bool) (hS : ∀ s, S s = (decide (s = t) || tau sg A s)) (A' s : Str) : tau (putS sg A (m, S)) A' s = (tau sg A' s || (decide (A' = A) && decide (s = t))) := by
  by_cases h : A' = A
  · subst h
    have : tau (putS sg A' (m, S)) A' s = S s := by simp [tau, putS]
    rw [this, hS]
    simp [Bool.or_comm]
  · have : tau (putS sg A (m, S)) A' s = tau sg A' s := by simp [tau, putS, h]
    rw [this]
    simp [h]
theorem FsSt.update {w w' : World} {B p M n n' m : Nat} {sym : Value} {sg : Str → Option (Nat × (Str → Bool))} {A : Str} {S : Str → Bool} {row : Option Nat} (h : FsSt w B p M sym sg n) (hg : w.grownBy w' row)
    (hrow : ∀ A' q, A' ≠ A → sg A' = some q → some q.1 ≠ row) (hp : some p ≠ row) (hmap : MapF Tryz.prog 9 w' M n' (fun A' => (putS sg A (m, S) A').map fun q => .map (some q.1))) (hS : SetF w' m n' S) (hn : n ≤ n')
    (hmB : B ≤ m) (hmM : m ≠ M) (hfresh : ∀ A' q, sg A' = some q → q.1 = m → A' = A) : FsSt w' B p M sym (putS sg A (m, S)) n' := by
  refine ⟨(hg.block p (lt_of_block h.blk) hp).trans h.blk, hmap, fun A' q e => ?_, fun A' q e => ?_, fun A1 A2 q1 q2 e1 e2 e3 => ?_, h.pB, h.mB⟩
  · unfold putS at e
    by_cases hA : A' = A
    · rw [if_pos hA] at e
      injection e with e
      subst e
      exact hS
    · rw [if_neg hA] at e
      exact ((h.set A' q e).kept hg (hrow A' q hA e)).mono hn
  · unfold putS at e
    by_cases hA : A' = A
    · rw [if_pos hA] at e
      injection e with e
      subst e
      exact ⟨hmB, hmM⟩
    · rw [if_neg hA] at e
      exact h.setB A' q e
  · unfold putS at e1 e2
    by_cases h1 : A1 = A
    · by_cases h2 : A2 = A
      · rw [h1, h2]
      · rw [if_pos h1] at e1
        rw [if_neg h2] at e2
        injection e1 with e1
        subst e1
        exact absurd (hfresh A2 q2 e2 e3.symm) h2
    · by_cases h2 : A2 = A
      · rw [if_neg h1] at e1
        rw [if_pos h2] at e2
        injection e2 with e2
        subst e2
        exact absurd (hfresh A1 q1 e1 e3) h1
      · rw [if_neg h1] at e1
        rw [if_neg h2] at e2
        exact h.inj A1 A2 q1 q2 e1 e2 e3

/-- What adding a token leaves. -/
structure Added (w w' : World) (B p M : Nat) (sym : Value) (sg sg' : Str → Option (Nat × (Str → Bool))) (n : Nat) (A t : Str) : Prop where
  st : FsSt w' B p M sym sg' (if tau sg A t then n else n + 1)
  tau : ∀ A' s, tau sg' A' s = (tau sg A' s || (decide (A' = A) && decide (s = t)))
  below : Below B w w'
  off : ∀ r, r < w.heap.size → FsOff M sg r → r ≠ p → w'.heap[r]? = w.heap[r]? ∧ FsOff M sg' r

set_option maxRecDepth 20000 in
set_option maxHeartbeats 1000000 in
theorem AddToken_any {w : World} {B p M n : Nat} {sym : Value} {sg : Str → Option (Nat × (Str → Bool))} (h : FsSt w B p M sym sg n) (A t : Str) (hA : A.length ≤ 1000000) (ht : t.length ≤ 9223372036854775807) (hn : n ≤ 1000000000000000) (hB : B ≤ w.heap.size) :
    Calls Tryz.prog 132 #[.pointer (some ⟨p, 0, none⟩), sv A, sv t] w fun e w' => e = .returned (.bool (!tau sg A t)) ∧ ∃ sg', Added w w' B p M sym sg sg' n A t := by
  have c0 := cell_of_blk h.blk 0
  simp only [List.getElem?_toArray, List.getElem?_cons_zero] at c0
  have hf := h.map
  have hp := lt_of_block h.blk
  have hMlt := hf.lt
  have hpM : p ≠ M := by
    intro e
    obtain ⟨es, cl, hm⟩ := hf.block
    rw [← e, h.blk] at hm
    cases hm
  cases hs : sg A with
  | none =>
    have hs' : (fun A => (sg A).map fun q => Value.map (some q.1)) A = none := by simp [hs]
    have HS := Lib.hid hs
    have HH := Lib.hid h
    have hta : tau sg A t = false := by simp [tau, hs]
    rw [hta]
    have HT := Lib.hid hta
    have hputs := putS_map sg A (w.heap.size, fun s => decide (s = t) || false)
    clear h hs hta
    generalize (fun A => (sg A).map fun q => Value.map (some q.1)) = f at *
    have HP := Lib.hid hputs
    have h1 : (f A).isSome = false := by rw [hs']; rfl
    have hnew : SetF (w.alloc (.map #[] 0)) w.heap.size 0 (fun _ => false) := MapF.made w
    have hfA : MapF Tryz.prog 9 (w.alloc (.map #[] 0)) M n f := hf.new ((New.refl w).alloc _)
    clear hs' hputs
    have hmm := @run_makeMap Tryz.prog
    go_enter Tryz.func132, Tryz.ntmps132
    go_wp2_with (first
      | (at_lookup; refine wpList_look_ok _ rfl _ _ _ _ rfl Tryz.underlying9 Tryz.underlying155 (z82 _) M n f rfl hf A rfl (by omega) ?_; rw [h1])
      | (at_mapUpdate; go_must (refine wpList_mstore _ rfl _ _ _ _ _ rfl Tryz.underlying9 Tryz.underlying155 M n f rfl hfA (by omega) A rfl (by omega) (.map (some w.heap.size)) rfl ?_)))
    intro w2 hf2 hg2
    rw [HP.out] at hf2
    have hnew2 := hnew.kept hg2 (by intro e; injection e with e; omega)
    have hb2 : ((bitF fun _ => false) t).isSome = false := rfl
    clear hmm
    go_wp2_with (first
      | (at_lookup; refine wpList_look_ok _ rfl _ _ _ _ rfl Tryz.underlying9 Tryz.underlying82 (z4 _) w.heap.size 0 (bitF fun _ => false) rfl hnew2 t rfl (by omega) ?_; rw [hb2])
      | (at_mapUpdate; go_must (refine wpList_mstore _ rfl _ _ _ _ _ rfl Tryz.underlying9 Tryz.underlying82 w.heap.size 0 (bitF fun _ => false) rfl hnew2 (by omega) t rfl (by omega) (.bool true) rfl ?_)))
    intro w3 hS3 hg3
    rw [bitF_put] at hS3
    have e5 : some M ≠ some w.heap.size := by intro e; injection e with e; omega
    have hf3 := hf2.kept hg3 e5
    have hgA : w.grownBy w2 (some M) := (World.grownBy_alloc w (.map #[] 0) (some M)).andThen hg2 (by intro j e; right; exact e)
    go_wp2
    go_ret
    have h := HH.out
    have hs := HS.out
    have hlt : ∀ A' q, sg A' = some q → q.1 < w.heap.size := fun A' q e => (h.set A' q e).lt
    have h2 : FsSt w2 B p M sym (putS sg A (w.heap.size, fun _ => false)) (n + 1) :=
      h.update hgA (fun A' q _ e => by have := (h.setB A' q e).2; intro e2; injection e2 with e2; exact this e2) (by intro e; injection e with e; exact hpM e) (by
        have e : (fun A' => Option.map (fun q => Value.map (some q.1)) (putS sg A (w.heap.size, fun s => decide (s = t) || false) A')) = fun A' => Option.map (fun q => Value.map (some q.1)) (putS sg A (w.heap.size, fun _ => false) A') := by
          funext A'
          unfold putS
          by_cases e : A' = A <;> simp [e]
        rw [← e]
        exact hf2) (hnew2.mono (by omega)) (by omega) hB (by omega) (fun A' q e e2 => by have := hlt A' q e; omega)
    have h3 := h2.update (A := A) (S := fun s => decide (s = t) || false) (m := w.heap.size) (n' := n + 1) hg3 (fun A' q hne e => by
        have e0 : sg A' = some q := by simpa [putS, hne] using e
        have := hlt A' q e0; intro e2; injection e2 with e2; omega) (by intro e; injection e with e; omega)
        (by rw [putS_putS]; exact hf3) (hS3.mono (by omega)) (Nat.le_refl _) hB (by omega) (fun A' q e e2 => by
        by_cases hA : A' = A
        · exact hA
        · have e0 : sg A' = some q := by simpa [putS, hA] using e
          have := hlt A' q e0; omega)
    rw [putS_putS] at h3
    refine ⟨rfl, _, ⟨by rw [HT.out]; exact h3, tau_put sg A t _ _ (fun s => by simp [tau, hs]), ?_, fun r hr hoff hrp => ⟨?_, ?_⟩⟩⟩
    · have hbB : Below B w w2 := (Below.mono (New.refl w) hB).grown hgA hB (fun k hk => by injection hk with hk; rw [← hk]; exact h.mB)
      exact hbB.grown hg3 (Nat.le_trans hB hgA.size) (fun k hk => by injection hk with hk; omega)
    · exact (hg3.block r (Nat.lt_of_lt_of_le hr hgA.size) (by intro e; injection e with e; omega)).trans (hgA.block r hr (by intro e; injection e with e; exact hoff.1 e))
    · refine ⟨hoff.1, fun A' q e => ?_⟩
      by_cases hA : A' = A
      · have : q = (w.heap.size, fun s => decide (s = t) || false) := by simpa [putS, hA, eq_comm] using e
        rw [this]; intro e; omega
      · exact hoff.2 A' q (by simpa [putS, hA] using e)
  | some q =>
    have hs' : (fun A => (sg A).map fun q => Value.map (some q.1)) A = some (.map (some q.1)) := by simp [hs]
    have hqS := h.set A q hs
    have hqB := h.setB A q hs
    have HS := Lib.hid hs
    have HH := Lib.hid h
    have hta : tau sg A t = q.2 t := by simp [tau, hs]
    have hputs := putS_map sg A (q.1, fun s => decide (s = t) || q.2 s)
    have hputid : (fun A' => (putS sg A (q.1, fun s => decide (s = t) || q.2 s) A').map fun q => Value.map (some q.1)) = fun A' => (sg A').map fun q => Value.map (some q.1) := by
      funext A'
      unfold putS
      by_cases e : A' = A
      · subst e; simp [hs]
      · simp [e]
    have HPI := Lib.hid hputid
    have hff : MapF Tryz.prog 9 w M n (fun A => (sg A).map fun q => Value.map (some q.1)) := hf
    have HF := Lib.hid hff
    have hqlt := hqS.lt
    have hqp : p ≠ q.1 := by
      intro e
      obtain ⟨es, cl, hm⟩ := hqS.block
      rw [← e, h.blk] at hm
      cases hm
    rw [hta]
    have HT := Lib.hid hta
    clear h hs hta hputs hputid hff
    generalize (fun A => (sg A).map fun q => Value.map (some q.1)) = f at hf hs'
    have h1 : (f A).isSome = true := by rw [hs']; rfl
    have h2 : (f A).getD (.map none) = .map (some q.1) := by rw [hs']; rfl
    have hb2 := bitF_some q.2 t
    clear hs'
    cases hqt : q.2 t with
    | true =>
      rw [hqt] at hb2
      have HQ := Lib.hid hqt
      clear hqt
      go_enter Tryz.func132, Tryz.ntmps132
      go_wp2_with (first
        | (at_lookup; refine wpList_look_ok _ rfl _ _ _ _ rfl Tryz.underlying9 Tryz.underlying155 (z82 _) M n f rfl hf A rfl (by omega) ?_; rw [h1, h2])
        | (at_lookup; refine wpList_look_ok _ rfl _ _ _ _ rfl Tryz.underlying9 Tryz.underlying82 (z4 _) q.1 n (bitF q.2) rfl hqS t rfl (by omega) ?_; rw [hb2]))
      go_ret
      refine ⟨rfl, sg, ⟨by rw [HT.out, HQ.out]; exact HH.out, fun A' s => ?_, Below.refl _ _, fun r hr hoff hrp => ⟨rfl, hoff⟩⟩⟩
      by_cases e : A' = A
      · subst e
        by_cases e2 : s = t
        · subst e2; rw [HT.out, HQ.out]; simp
        · simp [e2]
      · simp [e]
    | false =>
      rw [hqt] at hb2
      have HQ := Lib.hid hqt
      clear hqt
      go_enter Tryz.func132, Tryz.ntmps132
      go_wp2_with (first
        | (at_lookup; refine wpList_look_ok _ rfl _ _ _ _ rfl Tryz.underlying9 Tryz.underlying155 (z82 _) M n f rfl hf A rfl (by omega) ?_; rw [h1, h2])
        | (at_lookup; refine wpList_look_ok _ rfl _ _ _ _ rfl Tryz.underlying9 Tryz.underlying82 (z4 _) q.1 n (bitF q.2) rfl hqS t rfl (by omega) ?_; rw [hb2])
        | (at_mapUpdate; go_must (refine wpList_mstore _ rfl _ _ _ _ _ rfl Tryz.underlying9 Tryz.underlying82 q.1 n (bitF q.2) rfl hqS (by omega) t rfl (by omega) (.bool true) rfl ?_)))
      intro w3 hS3 hg3
      rw [bitF_put] at hS3
      go_wp2
      go_ret
      have h := HH.out
      have hs := HS.out
      have h3 := h.update (A := A) (S := fun s => decide (s = t) || q.2 s) (m := q.1) (n' := n + 1) hg3 (fun A' q' hne e => by
          intro e2; injection e2 with e2; exact hne (h.inj A' A q' q e hs e2)) (by intro e; injection e with e; exact hqp e)
          (by rw [HPI.out]; exact (HF.out.kept hg3 (by intro e; injection e with e; exact hqB.2 e.symm)).mono (by omega)) hS3 (by omega) hqB.1 hqB.2 (fun A' q' e e2 => h.inj A' A q' q e hs e2)
      refine ⟨rfl, _, ⟨by rw [HT.out, HQ.out]; exact h3, tau_put sg A t _ _ (fun s => by simp [tau, hs]), (Below.mono (New.refl w) hB).grown hg3 hB (fun k hk => by injection hk with hk; rw [← hk]; exact hqB.1), fun r hr hoff hrp => ⟨?_, ?_⟩⟩⟩
      · exact hg3.block r hr (by intro e; injection e with e; exact hoff.2 A q hs e)
      · refine ⟨hoff.1, fun A' q' e => ?_⟩
        by_cases hA : A' = A
        · have : q' = (q.1, fun s => decide (s = t) || q.2 s) := by simpa [putS, hA, eq_comm] using e
          rw [this]; exact hoff.2 A q hs
        · exact hoff.2 A' q' (by simpa [putS, hA] using e)
end Go.Proofs.YtdejcdmgcckmoaaGreatDoor

/- A part of the proofs about gocc: H2. -/
import Derived.Test.YtdejcdmgcckmoaaGreatDoorXW4
import Derived.Deep.SlicePairs
import Derived.Deep.Strs
namespace Go.Proofs.YtdejcdmgcckmoaaGreatDoor
open Go.ChangeShapes Go.WideShapes Go.RowKit Lr

theorem sv_bytes (s : ByteArray) : sv s.data.toList = .string s := by simp [sv]
theorem addr_plain {w : World} {a : Addr} {u : Value} (h : w.cell? a = some u) : a = ⟨a.block, a.off, none⟩ := by
  cases a with
  | mk b o sp =>
    cases sp with
    | none => rfl
    | some k =>
      unfold World.cell? at h
      split at h <;> simp at h
theorem addr_add (b o k : Nat) : (⟨b, o, none⟩ : Addr).add k = ⟨b, o + k, none⟩ := by unfold Addr.add; split <;> simp_all

section
variable {H : Type} {enc : TypeId × Value → H} {W : World} {base : Nat} {spare : Nat → Bool} {held : Bool}
theorem strs_of_trod {n : Nat} {v : Value} {x : DataW H × List MemPlace} (h : DataW.trod enc Tryz.prog W base spare held n 24 [v] = some x) :
    ∃ l : List Str, StrsAt W v l ∧ l.length ≤ 9223372036854775807 ∧ ∀ s ∈ l, s.length ≤ 9223372036854775807 := by
  rcases Deep.open_strs Tryz.underlying24 Tryz.underlying9 (by kernel_rfl) h with ⟨hc, _⟩ | ⟨a, len, cap, m, Sx, hc, _, hl, hm, hmm, _, hx⟩
  · simp only [List.cons.injEq, and_true] at hc
    subst hc
    exact ⟨[], ⟨none, 0, rfl, Nat.le_refl _, fun h => by simp at h⟩, by simp, by simp⟩
  · simp only [List.cons.injEq, and_true] at hc
    subst hc
    have hlm : len ≤ m := by rw [hmm]; split <;> omega
    refine ⟨(List.range len).map fun i => (Sx i).data.toList, ⟨some a, cap, by simp, by simpa using hl, fun h0 => ?_⟩, ?_, ?_⟩
    · simp only [List.length_map, List.length_range] at h0
      have ha := (hx 0 (by omega)).1
      have ea : a.add 0 = a := by simp [Addr.add]
      rw [ea] at ha
      have hp := addr_plain ha
      refine ⟨a.block, a.off, by rw [← hp], fun j hj => ?_⟩
      simp only [List.length_map, List.length_range] at hj
      have h1 := (hx j (by omega)).1
      rw [hp, addr_add] at h1
      rw [h1]
      simp [List.getD, hj, sv]
    · simp only [List.length_map, List.length_range]
      unfold maxLen at hm
      omega
    · intro s hs
      obtain ⟨i, hi, rfl⟩ := List.mem_map.1 hs
      have := (hx i (by have := List.mem_range.1 hi; omega)).2
      unfold maxLen at this
      simpa using this

theorem gram_of_trod {n : Nat} {v : Value} {x : DataW H × List MemPlace} (h : DataW.trod enc Tryz.prog W base spare held n 22 [v] = some x) : ∃ g : Gram, GramAt W v g ∧ Fits g := by
  rcases Deep.open_slice_pairs Tryz.underlying22 Tryz.underlying67 (by kernel_rfl) (by kernel_rfl) (by kernel_rfl) (by kernel_rfl) (by kernel_rfl) h with ⟨hc, _⟩ | ⟨a, len, cap, m, n', V0, V1, D0, D1, P0, P1, hc, _, hl, hm, hmm, _, hx⟩
  · simp only [List.cons.injEq, and_true] at hc
    subst hc
    exact ⟨[], ⟨none, 0, rfl, Nat.le_refl _, fun h => by simp at h⟩, ⟨by simp, by simp, by simp, by simp⟩⟩
  · simp only [List.cons.injEq, and_true] at hc
    subst hc
    have hlm : len ≤ m := by rw [hmm]; split <;> omega
    have each : ∀ i, i < m → ∃ p : Prd, V0 i = sv p.1 ∧ p.1.length ≤ 9223372036854775807 ∧ StrsAt W (V1 i) p.2 ∧ p.2.length ≤ 9223372036854775807 ∧ ∀ s ∈ p.2, s.length ≤ 9223372036854775807 := fun i hi => by
      obtain ⟨_, _, h2, h3⟩ := hx i hi
      obtain ⟨s, e1, e2, e3⟩ := DataW.trod_string Tryz.underlying9 h2
      obtain ⟨l, l1, l2, l3⟩ := strs_of_trod h3
      simp only [List.cons.injEq, and_true] at e1
      refine ⟨(s.data.toList, l), by rw [e1, sv_bytes], by unfold maxLen at e3; simpa using e3, l1, l2, l3⟩
    obtain ⟨G, hG⟩ := Deep.choose_lt each
    refine ⟨(List.range len).map G, ⟨some a, cap, by simp, by simpa using hl, fun h0 => ?_⟩, ?_⟩
    · simp only [List.length_map, List.length_range] at h0
      have ha := (hx 0 (by omega)).1
      have ea : a.add (0 * 2) = a := by simp [Addr.add]
      rw [ea] at ha
      have hp := addr_plain ha
      refine ⟨a.block, a.off, by rw [← hp], fun j hj => ?_⟩
      simp only [List.length_map, List.length_range] at hj
      obtain ⟨h1, h2, _⟩ := hx j (by omega)
      obtain ⟨g1, g2, g3, _⟩ := hG j (by omega)
      rw [hp, addr_add] at h1 h2
      have eg : ((List.range len).map G).getD j default = G j := by simp [List.getD, hj]
      rw [eg]
      exact ⟨by rw [h1, g1], V1 j, by rw [← Nat.add_assoc] at h2; exact h2, g3⟩
    · unfold maxLen at hm
      refine ⟨by simp; omega, fun p hp => ?_, fun p hp => ?_, fun p hp => ?_⟩
      all_goals
        obtain ⟨i, hi, rfl⟩ := List.mem_map.1 hp
        obtain ⟨_, g2, _, g4, g5⟩ := hG i (by have := List.mem_range.1 hi; omega)
        first | exact g2 | exact g4 | exact g5
end
end Go.Proofs.YtdejcdmgcckmoaaGreatDoor

/- A part of the proofs about gocc: G4. -/
import Derived.Test.YtdejcdmgcckmoaaGreatDoorXG3
import Derived.Test.YtdejcdmgcckmoaaGreatDoorXW10
namespace Go.Proofs.YtdejcdmgcckmoaaGreatDoor
open Go.RowKit Lr

theorem mem_addT {l : List Str} {s t : Str} (h : t ∈ addT l s) : t ∈ l ∨ (t = s ∧ greatB s = false) := by
  unfold addT at h
  split at h
  · rename_i hc
    simp only [Bool.and_eq_true, Bool.not_eq_true'] at hc
    rcases List.mem_append.1 h with h | h
    · exact .inl h
    · simp at h; exact .inr ⟨h, hc.1⟩
  · exact .inl h
theorem mem_terminalsF {g : Gram} {t : Str} (h : t ∈ terminalsF g) : ∃ p ∈ g, t ∈ p.2 ∧ greatB t = false := by
  have h1 : ∀ (b : List Str) (out : List Str), t ∈ b.foldl addT out → t ∈ out ∨ (t ∈ b ∧ greatB t = false) := by
    intro b
    induction b with
    | nil => intro out h; exact .inl h
    | cons s b ih =>
      intro out h
      rcases ih _ h with h | h
      · rcases mem_addT h with h | ⟨h, h2⟩
        · exact .inl h
        · subst h; exact .inr ⟨List.mem_cons_self .., h2⟩
      · exact .inr ⟨List.mem_cons_of_mem _ h.1, h.2⟩
  have h2 : ∀ (g : Gram) (out : List Str), t ∈ g.foldl (fun out p => p.2.foldl addT out) out → t ∈ out ∨ ∃ p ∈ g, t ∈ p.2 ∧ greatB t = false := by
    intro g
    induction g with
    | nil => intro out h; exact .inl h
    | cons p g ih =>
      intro out h
      rcases ih _ h with h | ⟨q, hq, h⟩
      · rcases h1 _ _ h with h | h
        · exact .inl h
        · exact .inr ⟨p, List.mem_cons_self .., h⟩
      · exact .inr ⟨q, List.mem_cons_of_mem _ hq, h⟩
  rcases h2 g [] h with h | h
  · cases h
  · exact h
theorem head_of_great {g : Gram} (hm : Sm g) {t : Str} (hg : greatB t = false) : isHead g t = false := by
  cases h : isHead g t with
  | false => rfl
  | true =>
    obtain ⟨b, hq⟩ := isHead_iff.1 h
    have : greatB t = true := (hm.head _ hq).2
    rw [this] at hg
    cases hg
theorem letters_ne {s : Str} (h : symbolOkB s = true) : s ≠ startS ∧ s ≠ eofS ∧ s ≠ invalidS ∧ s ≠ emptyS := by
  have h1 := symbolOk_le h
  have h2 := symbolOk_letter h
  refine ⟨fun e => ?_, fun e => ?_, fun e => ?_, fun e => ?_⟩
  · rw [e] at h2; exact absurd (h2 39 (by simp [startS])) (by decide)
  · rw [e] at h2; exact absurd (h2 226 (by simp [eofS])) (by decide)
  · rw [e] at h1; exact absurd h1 (by decide)
  · rw [e] at h1; exact absurd h1 (by decide)
/-- What the law asks of a terminal. -/
theorem symbols_term {g : Gram} (hm : Sm g) {t : Str} (h : t ∈ terminalsF g) : has ((termsL g).map toldS) t = true ∧ has (headsA (augP g)) t = false := by
  obtain ⟨p, hp, ht, hg⟩ := mem_terminalsF h
  have hok := hm.sym p hp t ht
  have hne := letters_ne hok
  have hH : has (headsA (augP g)) t = false := by
    rw [has_false, mem_headsA]
    rintro ⟨q, hq, e⟩
    rcases List.mem_cons.1 hq with rfl | hq
    · exact hne.1 e
    · obtain ⟨r, hr, rfl⟩ := List.mem_map.1 hq
      have : isHead g t = true := isHead_iff.2 ⟨r.2, by rw [show t = r.1 from e]; exact hr⟩
      rw [head_of_great hm hg] at this
      cases this
  refine ⟨?_, hH⟩
  rw [has_iff, List.mem_map]
  refine ⟨t, ?_, by unfold toldS; rw [if_neg hne.2.1]⟩
  unfold termsL
  rw [List.mem_filter]
  refine ⟨mem_typesA.2 (.inr ⟨(p.1, bodyS g p.2), List.mem_cons_of_mem _ (List.mem_map.2 ⟨p, hp, rfl⟩), .inr ⟨symOf g t, ?_, (symOf_str g t).symm⟩⟩), by simp [hH]⟩
  show symOf g t ∈ bodyS g p.2
  rw [bodyS_eq, if_neg (by intro e; rw [e] at ht; cases ht)]
  exact List.mem_map.2 ⟨t, ht, rfl⟩
/-- What the law asks of a head. -/
theorem symbols_head {g : Gram} (hm : Sm g) {t : Str} (h : t ∈ headsF g) : has (headsA (augP g)) t = true ∧ has ((termsL g).map toldS) t = false := by
  obtain ⟨p, hp, rfl⟩ : ∃ p ∈ g, p.1 = t := by
    obtain ⟨b, hp⟩ := isHead_iff.1 (headsF_mem.1 h)
    exact ⟨(t, b), hp, rfl⟩
  have hH : has (headsA (augP g)) p.1 = true := by
    rw [has_iff, mem_headsA]
    exact ⟨(p.1, bodyS g p.2), List.mem_cons_of_mem _ (List.mem_map.2 ⟨p, hp, rfl⟩), rfl⟩
  refine ⟨hH, ?_⟩
  rw [has_false, List.mem_map]
  rintro ⟨u, hu, e⟩
  unfold termsL at hu
  rw [List.mem_filter] at hu
  unfold toldS at e
  split at e
  · have := symbolOk_letter (hm.head p hp).1 36 (by rw [← e]; simp [endS])
    exact absurd this (by decide)
  · rw [e, hH] at hu
    simp at hu
end Go.Proofs.YtdejcdmgcckmoaaGreatDoor

/- A part of the proofs about gocc: C2. -/
import Derived.Test.YtdejcdmgcckmoaaGreatDoorXC1
namespace Go.Proofs.YtdejcdmgcckmoaaGreatDoor
open Lr

/-- What the reference's test of a grammar asks of its text. -/
structure Sm (g : Gram) : Prop where
  pos : 0 < g.length
  len : g.length ≤ 12
  body : ∀ p ∈ g, p.2.length ≤ 4
  head : ∀ p ∈ g, symbolOkB p.1 = true ∧ greatB p.1 = true
  sym : ∀ p ∈ g, ∀ s ∈ p.2, symbolOkB s = true
  great : ∀ p ∈ g, ∀ s ∈ p.2, greatB s = true → isHead g s = true
  nodup : g.Nodup

theorem symbolOk_pos {s : Str} (h : symbolOkB s = true) : 0 < s.length := by simp only [symbolOkB, Bool.and_eq_true, decide_eq_true_eq] at h; exact h.1.2
theorem symbolOk_le {s : Str} (h : symbolOkB s = true) : s.length ≤ 4 := by simp [symbolOkB] at h; exact h.2
theorem symbolOk_letter {s : Str} (h : symbolOkB s = true) : ∀ c ∈ s, letterB c = true := by simp [symbolOkB] at h; exact h.1.1
theorem Sm.head_pos {g : Gram} (h : Sm g) {p : Prd} (hp : p ∈ g) : 0 < p.1.length := symbolOk_pos (h.head p hp).1
theorem Sm.sym_pos {g : Gram} (h : Sm g) {p : Prd} (hp : p ∈ g) {s : Str} (hs : s ∈ p.2) : 0 < s.length := symbolOk_pos (h.sym p hp s hs)
/-- In a body a symbol is a head just where it begins with a great letter. -/
theorem Sm.great_iff {g : Gram} (h : Sm g) {p : Prd} (hp : p ∈ g) {s : Str} (hs : s ∈ p.2) : greatB s = isHead g s := by
  cases hg : greatB s with
  | true => exact (h.great p hp s hs hg).symm
  | false =>
    cases hh : isHead g s with
    | false => rfl
    | true =>
      obtain ⟨b, hb⟩ := isHead_iff.1 hh
      have := (h.head _ hb).2
      simp only at this
      rw [hg] at this
      cases this

def addT (out : List Str) (s : Str) : List Str := if !greatB s && !has out s then out ++ [s] else out
def terminalsF (g : Gram) : List Str := g.foldl (fun out p => p.2.foldl addT out) []
theorem addT_len (out : List Str) (s : Str) : (addT out s).length ≤ out.length + 1 := by unfold addT; split <;> simp
theorem addTs_len (l : List Str) : ∀ out, (l.foldl addT out).length ≤ out.length + l.length := by
  induction l with
  | nil => intro out; simp
  | cons s l ih => intro out; have := ih (addT out s); have := addT_len out s; simp at *; omega
theorem terminals_len {g : Gram} (h : ∀ p ∈ g, p.2.length ≤ 4) : (terminalsF g).length ≤ 4 * g.length := by
  have : ∀ (g : Gram) (out : List Str), (∀ p ∈ g, p.2.length ≤ 4) → (g.foldl (fun out p => p.2.foldl addT out) out).length ≤ out.length + 4 * g.length := by
    intro g
    induction g with
    | nil => intro out _; simp
    | cons p g ih =>
      intro out h
      have h1 := ih (p.2.foldl addT out) (fun q hq => h q (by simp [hq]))
      have h2 := addTs_len p.2 out
      have h3 := h p (by simp)
      simp at *; omega
  simpa [terminalsF] using this g [] h
theorem mem_take {α : Type} {l : List α} {k : Nat} {x : α} (h : x ∈ l.take k) : x ∈ l := List.mem_of_mem_take h
theorem terminals_part {g : Gram} (h : ∀ p ∈ g, p.2.length ≤ 4) (hl : g.length ≤ 12) (k j : Nat) (hk : k < g.length) : ((g[k].2.take j).foldl addT (terminalsF (g.take k))).length ≤ 52 := by
  have h1 := addTs_len (g[k].2.take j) (terminalsF (g.take k))
  have h2 := terminals_len (g := g.take k) (fun p hp => h p (mem_take hp))
  have h3 := h g[k] (List.getElem_mem hk)
  simp at h1 h2
  omega

/-- Rows of heads that have a word. -/
structure Wordy (g : Gram) (L : List Str) : Prop where
  nodup : L.Nodup
  word : ∀ x ∈ L, isHead g x = true ∧ ∃ n y, D g n [x] y

theorem word_list {g : Gram} (hm : Sm g) {L : List Str} (hL : Wordy g L) {p : Prd} (hp : p ∈ g) : ∀ l : List Str, (∀ s ∈ l, s ∈ p.2) → (l.any fun s => greatB s && !has L s) = false → ∃ n y, D g n l y
  | [], _, _ => ⟨0, [], .nil⟩
  | s :: l, h, ha => by
    simp only [List.any_cons, Bool.or_eq_false_iff] at ha
    obtain ⟨n, y, hd⟩ := word_list hm hL hp l (fun t ht => h t (List.mem_cons_of_mem _ ht)) ha.2
    have hs := h s (List.mem_cons_self ..)
    cases hg : greatB s with
    | false =>
      rw [hm.great_iff hp hs] at hg
      exact ⟨n, s :: y, .term hg hd⟩
    | true =>
      have h1 := ha.1
      rw [hg] at h1
      simp at h1
      obtain ⟨m, z, hz⟩ := (hL.word s (has_iff.1 h1)).2
      exact ⟨m + n, z ++ y, by simpa using hz.append hd⟩
theorem Wordy.snoc {g : Gram} (hm : Sm g) {L : List Str} (hL : Wordy g L) {k : Nat} (hk : k < g.length) (h1 : has L g[k].1 = false) (h2 : (g[k].2.any fun s => greatB s && !has L s) = false) : Wordy g (L ++ [g[k].1]) := by
  have hmem := List.getElem_mem hk
  refine ⟨?_, ?_⟩
  · rw [List.nodup_append]
    refine ⟨hL.nodup, by simp, ?_⟩
    intro a ha b hb e
    simp at hb
    subst hb; subst e
    exact absurd ha (has_false.1 h1)
  · intro x hx
    rcases List.mem_append.1 hx with hx | hx
    · exact hL.word x hx
    · simp at hx
      subst hx
      obtain ⟨n, y, hd⟩ := word_list hm hL hmem g[k].2 (fun s hs => hs) h2
      exact ⟨isHead_iff.2 ⟨g[k].2, hmem⟩, n + 1, y, D.one (b := g[k].2) hmem hd⟩
theorem headsF_mem {g : Gram} {x : Str} : x ∈ headsF g ↔ isHead g x = true := by
  have : ∀ (g : Gram) (out : List Str), x ∈ g.foldl (fun out p => addTo out p.1) out ↔ x ∈ out ∨ isHead g x = true := by
    intro g
    induction g with
    | nil => intro out; simp [isHead]
    | cons p g ih =>
      intro out
      simp only [List.foldl_cons, ih]
      have e : isHead (p :: g) x = (p.1 == x || isHead g x) := by simp [isHead]
      rw [e]
      unfold addTo
      cases hh : has out p.1 with
      | true =>
        simp only [if_true]
        have := has_iff.1 hh
        constructor
        · rintro (h | h)
          · exact .inl h
          · exact .inr (by simp [h])
        · rintro (h | h)
          · exact .inl h
          · simp only [Bool.or_eq_true, beq_iff_eq] at h
            rcases h with rfl | h
            · exact .inl this
            · exact .inr h
      | false =>
        simp only [Bool.false_eq_true, if_false, List.mem_append, List.mem_singleton, Bool.or_eq_true, beq_iff_eq]
        constructor
        · rintro ((h | rfl) | h)
          · exact .inl h
          · exact .inr (.inl rfl)
          · exact .inr (.inr h)
        · rintro (h | rfl | h)
          · exact .inl (.inl h)
          · exact .inl (.inr rfl)
          · exact .inr h
  have := this g []
  simpa [headsF] using this
theorem headsF_nodup (g : Gram) : (headsF g).Nodup := by
  have : ∀ (g : Gram) (out : List Str), out.Nodup → (g.foldl (fun out p => addTo out p.1) out).Nodup := by
    intro g
    induction g with
    | nil => intro out h; exact h
    | cons p g ih =>
      intro out h
      simp only [List.foldl_cons]
      apply ih
      unfold addTo
      cases hh : has out p.1 with
      | true => simpa using h
      | false =>
        simp only [Bool.false_eq_true, if_false]
        rw [List.nodup_append]
        refine ⟨h, by simp, ?_⟩
        intro a ha b hb e
        simp at hb
        subst hb; subst e
        exact absurd ha (has_false.1 hh)
  exact this g [] List.nodup_nil
theorem Wordy.len {g : Gram} {L : List Str} (h : Wordy g L) : L.length ≤ (headsF g).length :=
  nodup_le h.nodup (fun x hx => headsF_mem.2 (h.word x hx).1)
/-- Where there are as many, every head has a word. -/
theorem Wordy.all {g : Gram} {L : List Str} (h : Wordy g L) (he : L.length = (headsF g).length) : Productive g := by
  intro A hA
  by_cases hin : A ∈ L
  · exact (h.word A hin).2
  · exfalso
    have hn : (A :: L).Nodup := List.nodup_cons.2 ⟨hin, h.nodup⟩
    have := nodup_le (V := A :: L) (L := headsF g) hn (fun x hx => by
      rcases List.mem_cons.1 hx with rfl | hx
      · exact headsF_mem.2 hA
      · exact headsF_mem.2 (h.word x hx).1)
    simp at this
    omega
/-- A grammar of which is spoken. -/
structure GOk (g : Gram) : Prop extends Sm g where
  prod : Productive g
end Go.Proofs.YtdejcdmgcckmoaaGreatDoor

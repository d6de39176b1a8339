/- A part of the proofs about gocc: C1. -/
import Derived.Test.YtdejcdmgcckmoaaGreatDoorXBound
namespace Go.Proofs.YtdejcdmgcckmoaaGreatDoor
open Lr

def letterB (c : UInt8) : Bool := (decide (97 ≤ c.toNat) && decide (c.toNat ≤ 122)) || (decide (65 ≤ c.toNat) && decide (c.toNat ≤ 90))
def symbolOkB (s : Str) : Bool := s.all letterB && decide (0 < s.length) && decide (s.length ≤ 4)
def greatB : Str → Bool
  | [] => false
  | c :: _ => decide (65 ≤ c.toNat) && decide (c.toNat ≤ 90)
def has (l : List Str) (s : Str) : Bool := l.contains s
theorem has_iff {l : List Str} {s : Str} : has l s = true ↔ s ∈ l := by simp [has]
theorem has_false {l : List Str} {s : Str} : has l s = false ↔ s ∉ l := by simp [has]

def addTo (out : List Str) (s : Str) : List Str := if has out s then out else out ++ [s]
def headsF (g : Gram) : List Str := g.foldl (fun out p => addTo out p.1) []

theorem foldl_take {α β : Type} (f : β → α → β) (x : β) (l : List α) (d : α) {k : Nat} (h : k < l.length) : (l.take (k + 1)).foldl f x = f ((l.take k).foldl f x) (l.getD k d) := by
  rw [List.take_succ_eq_append_getElem h, List.foldl_append]
  simp [List.getD, h]

theorem addTo_len (out : List Str) (s : Str) : (addTo out s).length ≤ out.length + 1 := by
  unfold addTo; split <;> simp
theorem headsF_len (g : Gram) : (headsF g).length ≤ g.length := by
  have : ∀ (g : Gram) (out : List Str), (g.foldl (fun out p => addTo out p.1) out).length ≤ out.length + g.length := by
    intro g
    induction g with
    | nil => intro out; simp
    | cons p g ih => intro out; have := ih (addTo out p.1); have := addTo_len out p.1; simp at *; omega
  simpa [headsF] using this g []

def idxOf (s : Str) : List Str → Nat → Int
  | [], _ => -1
  | x :: l, k => if s == x then (k : Int) else idxOf s l (k + 1)
theorem idxOf_drop {s : Str} {l : List Str} {k : Nat} (h : k < l.length) : idxOf s (l.drop k) k = if s == l[k] then (k : Int) else idxOf s (l.drop (k + 1)) (k + 1) := by
  rw [List.drop_eq_getElem_cons h, idxOf]
theorem idxOf_end {s : Str} {l : List Str} {k : Nat} (h : ¬ k < l.length) : idxOf s (l.drop k) k = -1 := by
  rw [List.drop_of_length_le (by omega), idxOf]
theorem idxOf_ge {s : Str} : ∀ {l : List Str} {k : Nat}, decide (0 ≤ idxOf s l k) = has l s
  | [], k => by simp [idxOf, has]
  | x :: l, k => by
    rw [idxOf]
    by_cases h : s == x
    · rw [if_pos h]; simp at h; simp [h, has]
    · rw [if_neg h, idxOf_ge]; simp at h; simp [h, has]

/-- The place of the first element of which p holds. -/
def idxBy {α : Type} (p : α → Bool) : List α → Nat → Int
  | [], _ => -1
  | x :: l, k => if p x then (k : Int) else idxBy p l (k + 1)
theorem idxBy_drop {α : Type} {p : α → Bool} {l : List α} {k : Nat} (h : k < l.length) : idxBy p (l.drop k) k = if p l[k] then (k : Int) else idxBy p (l.drop (k + 1)) (k + 1) := by
  rw [List.drop_eq_getElem_cons h, idxBy]
theorem idxBy_end {α : Type} {p : α → Bool} {l : List α} {k : Nat} (h : ¬ k < l.length) : idxBy p (l.drop k) k = -1 := by
  rw [List.drop_of_length_le (by omega), idxBy]
theorem idxBy_ge {α : Type} {p : α → Bool} : ∀ {l : List α} {k : Nat}, decide (0 ≤ idxBy p l k) = l.any p
  | [], k => by simp [idxBy]
  | x :: l, k => by
    rw [idxBy]
    by_cases h : p x
    · rw [if_pos h]; simp [h]
    · rw [if_neg h, idxBy_ge]; simp [h]
end Go.Proofs.YtdejcdmgcckmoaaGreatDoor

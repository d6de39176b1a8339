/- What the table says. -/
import Derived.Test.YtdejcdmgcckmoaaGreatDoorYMM
import Derived.Test.YtdejcdmgcckmoaaGreatDoorYCC
namespace Go.Proofs.YtdejcdmgcckmoaaGreatDoor
open Go.RowKit Go.Sort Lr

/-- The package's table against what its states say. -/
theorem tab_ok {g : Gram} (hm : Sm g) (hN : NoStop g) {Γ : List (List Str)} {A Ls : List (List Itm)} {E : List Edg} (hT : Lr.Told g Γ A E) (hlen : Ls.length = Γ.length)
    (hits : ∀ (k : Nat) (γ : List Str) (l : List Itm), Γ[k]? = some γ → Ls[k]? = some l → ∀ i, i ∈ l ↔ Vld g γ i) : TabOk g A E (stF g Γ Ls) Γ.length := by
  refine ⟨hT.len, fun i t hi ht l hl => ?_⟩
  have hγ : Γ[i]? = some Γ[i] := List.getElem?_eq_getElem hi
  have hiL : i < Ls.length := by rw [hlen]; exact hi
  have hLi : Ls[i]? = some Ls[i] := List.getElem?_eq_getElem hiL
  have hv := hits i _ _ hγ hLi
  have e : Ls.getD i [] = Ls[i] := by rw [List.getD, hLi]; rfl
  have hO := acts_ok hm hT hγ hv (hT.items i _ l hγ hl) ht
  have hM := foldA_met (meet_of (l := Ls[i]) (fun x _ y hy => (letters_ne (symIn_ok hm (body_sym hy))).2.1) (fun x hx => ((hv x).1 hx).rest_le) (noStop_of hm hN hv) t (nF g Γ i t)) (k := (actsI g t (nF g Γ i t) Ls[i]).length) (Nat.le_refl _)
  rw [List.take_length] at hM
  unfold stF
  rw [e]
  exact met_said hO hM
theorem looks_ne {g : Gram} (hm : Sm g) {s : Str} (h : s ∈ looksF g) : 0 < s.length := by
  unfold looksF at h
  rcases List.mem_append.1 h with h | h
  · exact symbolOk_pos ((termsOk hm).sym s h).1
  · simp at h; subst h; decide
theorem looks_len {g : Gram} (hm : Sm g) : (looksF g).length ≤ 49 := by
  have h1 := terminals_len hm.body
  have h2 := hm.len
  unfold looksF; simp; omega
theorem cntTo_le {f : Nat → Nat} {c : Nat} (h : ∀ i, f i ≤ c) : ∀ k, cntTo f k ≤ c * k
  | 0 => Nat.le_refl _
  | k + 1 => by have := cntTo_le h k; have := h k; unfold cntTo; rw [Nat.mul_succ]; omega
theorem countP_take {α : Type} {p : α → Bool} {l : List α} {j : Nat} (h : j < l.length) : (l.take (j + 1)).countP p = (l.take j).countP p + (if p l[j] then 1 else 0) := by
  rw [List.take_succ_eq_append_getElem h, List.countP_append, List.countP_singleton]
/-- How many edges there may be. -/
theorem edges_len {g : Gram} (hm : Sm g) {Γ : List (List Str)} {A : List (List Itm)} {E : List Edg} (hT : Lr.Told g Γ A E) (hN : Γ.length ≤ 120) : E.length ≤ 120000 := by
  have h1 := nodup_le_of (V := E.map fun x => (x.1, x.2.1)) (L := (List.range Γ.length).flatMap fun i => (symsG g).map fun X => (i, X)) (by
    unfold List.Nodup
    rw [List.pairwise_map]
    refine hT.enod.imp_of_mem fun {x y} hx hy hne e => hne ?_
    obtain ⟨x1, x2, x3⟩ := x
    obtain ⟨y1, y2, y3⟩ := y
    simp only [Prod.mk.injEq] at e
    obtain ⟨rfl, rfl⟩ := e
    have h3 : x3 = y3 := EdgeC.uniq hT.full.toGamOk ((hT.edges (x1, x2, x3)).1 hx) ((hT.edges (x1, x2, y3)).1 hy)
    rw [h3]) (fun z hz => by
    obtain ⟨x, hx, rfl⟩ := List.mem_map.1 hz
    have he := (hT.edges x).1 hx
    refine List.mem_flatMap.2 ⟨x.1, List.mem_range.2 he.lt.1, List.mem_map.2 ⟨x.2.1, symsG_all ?_, rfl⟩⟩
    obtain ⟨_, _, _, _, hl, _⟩ := he
    exact hl.sym)
  rw [List.length_map] at h1
  have h2 : ((List.range Γ.length).flatMap fun i => (symsG g).map fun X => (i, X)).length ≤ 1000 * (List.range Γ.length).length := flatMap_le _ 1000 (fun x => by rw [List.length_map]; exact types_len hm) _
  rw [List.length_range] at h2
  have h3 : 1000 * Γ.length ≤ 1000 * 120 := Nat.mul_le_mul_left _ hN
  omega
end Go.Proofs.YtdejcdmgcckmoaaGreatDoor

/- What a state's items say at a terminal; the parser's steps, over plain lists. -/
import Derived.Test.YtdejcdmgcckmoaaGreatDoorYT
import Derived.Test.YtdejcdmgcckmoaaGreatDoorYA
namespace Go.Proofs.YtdejcdmgcckmoaaGreatDoor
open Lr

/-! What the reference says a state's items say at a terminal. -/
abbrev KN := Int × Int
abbrev Ac := Nat × Str × Int × Int
def addA (out : List KN) (x : KN) : List KN := if out.contains x then out else out ++ [x]
def nxt (g : Gram) (i : Itm) : Str := ((i.rest g)[0]?).getD []
def whatI (g : Gram) (s : Str) (i : Itm) : Option KN :=
  if nxt g i ≠ [] ∨ i.look ≠ s then none else match i.prod with
    | none => some (3, 0)
    | some p => some (2, (p : Int))
def stepE (i : Nat) (s : Str) (out : List KN) (e : Edg) : List KN := if e.1 = i ∧ e.2.1 = s ∧ greatB s = false then addA out (1, (e.2.2 : Int)) else out
def stepW (g : Gram) (s : Str) (out : List KN) (x : Itm) : List KN := match whatI g s x with | some a => addA out a | none => out
def saidE (i : Nat) (s : Str) (E : List Edg) : List KN := E.foldl (stepE i s) []
def saidF (g : Gram) (l : List Itm) (E : List Edg) (i : Nat) (s : Str) : List KN := l.foldl (stepW g s) (saidE i s E)

theorem addA_mem {out : List KN} {x y : KN} : y ∈ addA out x ↔ y ∈ out ∨ y = x := by
  unfold addA
  split
  · rename_i h
    have h : x ∈ out := by simpa using h
    constructor
    · exact .inl
    · rintro (h1 | rfl)
      · exact h1
      · exact h
  · simp
theorem addA_nodup {out : List KN} {x : KN} (h : out.Nodup) : (addA out x).Nodup := by
  unfold addA
  split
  · exact h
  · rename_i hx
    have hx : x ∉ out := by simpa using hx
    rw [List.nodup_append]
    refine ⟨h, by simp, fun a ha b hb e => ?_⟩
    simp at hb
    subst hb; subst e
    exact hx ha
theorem addA_len (out : List KN) (x : KN) : (addA out x).length ≤ out.length + 1 := by
  unfold addA; split <;> simp
theorem saidE_gen {i : Nat} {s : Str} : ∀ (E : List Edg) (out : List KN), out.Nodup →
    (E.foldl (stepE i s) out).Nodup ∧ (E.foldl (stepE i s) out).length ≤ out.length + E.length ∧ ∀ y, y ∈ E.foldl (stepE i s) out ↔ y ∈ out ∨ ∃ j : Nat, (i, s, j) ∈ E ∧ greatB s = false ∧ y = (1, (j : Int))
  | [], out, h => ⟨h, by simp, by simp⟩
  | e :: E, out, h => by
    have key : (stepE i s out e).Nodup ∧ (stepE i s out e).length ≤ out.length + 1 ∧ ∀ y, y ∈ stepE i s out e ↔ y ∈ out ∨ (e.1 = i ∧ e.2.1 = s ∧ greatB s = false ∧ y = (1, (e.2.2 : Int))) := by
      unfold stepE
      split
      · rename_i hc
        refine ⟨addA_nodup h, addA_len _ _, fun y => ?_⟩
        rw [addA_mem]
        constructor
        · rintro (h1 | h1)
          · exact .inl h1
          · exact .inr ⟨hc.1, hc.2.1, hc.2.2, h1⟩
        · rintro (h1 | ⟨_, _, _, h1⟩)
          · exact .inl h1
          · exact .inr h1
      · rename_i hc
        exact ⟨h, by omega, fun y => ⟨.inl, fun h1 => by rcases h1 with h1 | ⟨a, b, c, _⟩; exact h1; exact absurd ⟨a, b, c⟩ hc⟩⟩
    obtain ⟨k1, k2, k3⟩ := key
    obtain ⟨m1, m2, m3⟩ := saidE_gen E _ k1
    refine ⟨m1, by simp only [List.foldl_cons, List.length_cons]; omega, fun y => ?_⟩
    simp only [List.foldl_cons]
    rw [m3, k3]
    obtain ⟨e1, e2, e3⟩ := e
    constructor
    · rintro ((h1 | ⟨rfl, rfl, c, h1⟩) | ⟨j, h1, c, h2⟩)
      · exact .inl h1
      · exact .inr ⟨e3, List.mem_cons_self .., c, h1⟩
      · exact .inr ⟨j, List.mem_cons_of_mem _ h1, c, h2⟩
    · rintro (h1 | ⟨j, h1, c, h2⟩)
      · exact .inl (.inl h1)
      · rcases List.mem_cons.1 h1 with h1 | h1
        · cases h1; exact .inl (.inr ⟨rfl, rfl, c, h2⟩)
        · exact .inr ⟨j, h1, c, h2⟩
theorem saidW_gen {g : Gram} {s : Str} : ∀ (l : List Itm) (out : List KN), out.Nodup →
    (l.foldl (stepW g s) out).Nodup ∧ (l.foldl (stepW g s) out).length ≤ out.length + l.length ∧ ∀ y, y ∈ l.foldl (stepW g s) out ↔ y ∈ out ∨ ∃ x ∈ l, whatI g s x = some y
  | [], out, h => ⟨h, by simp, by simp⟩
  | e :: l, out, h => by
    have key : (stepW g s out e).Nodup ∧ (stepW g s out e).length ≤ out.length + 1 ∧ ∀ y, y ∈ stepW g s out e ↔ y ∈ out ∨ whatI g s e = some y := by
      unfold stepW
      cases hw : whatI g s e with
      | none => exact ⟨h, by simp, fun y => by simp⟩
      | some a => exact ⟨addA_nodup h, addA_len _ _, fun y => by rw [addA_mem]; simp only [Option.some.injEq]; rw [eq_comm (a := a)]⟩
    obtain ⟨k1, k2, k3⟩ := key
    obtain ⟨m1, m2, m3⟩ := saidW_gen l _ k1
    refine ⟨m1, by simp only [List.foldl_cons, List.length_cons]; omega, fun y => ?_⟩
    simp only [List.foldl_cons]
    rw [m3, k3]
    constructor
    · rintro ((h1 | h1) | ⟨x, h1, h2⟩)
      · exact .inl h1
      · exact .inr ⟨e, List.mem_cons_self .., h1⟩
      · exact .inr ⟨x, List.mem_cons_of_mem _ h1, h2⟩
    · rintro (h1 | ⟨x, h1, h2⟩)
      · exact .inl (.inl h1)
      · rcases List.mem_cons.1 h1 with rfl | h1
        · exact .inl (.inr h2)
        · exact .inr ⟨x, h1, h2⟩
theorem saidE_nodup (i : Nat) (s : Str) (E : List Edg) : (saidE i s E).Nodup := (saidE_gen E [] List.nodup_nil).1
theorem saidE_len (i : Nat) (s : Str) (E : List Edg) : (saidE i s E).length ≤ E.length := by have := (saidE_gen (i := i) (s := s) E [] List.nodup_nil).2.1; simpa [saidE] using this
theorem saidF_nodup (g : Gram) (l : List Itm) (E : List Edg) (i : Nat) (s : Str) : (saidF g l E i s).Nodup := (saidW_gen l _ (saidE_nodup i s E)).1
theorem saidF_len (g : Gram) (l : List Itm) (E : List Edg) (i : Nat) (s : Str) : (saidF g l E i s).length ≤ E.length + l.length := by
  have h1 := (saidW_gen (g := g) (s := s) l _ (saidE_nodup i s E)).2.1
  have h2 := saidE_len i s E
  unfold saidF; omega
theorem saidF_mem {g : Gram} {l : List Itm} {E : List Edg} {i : Nat} {s : Str} {y : KN} : y ∈ saidF g l E i s ↔ (∃ j : Nat, (i, s, j) ∈ E ∧ greatB s = false ∧ y = (1, (j : Int))) ∨ ∃ x ∈ l, whatI g s x = some y := by
  unfold saidF
  rw [(saidW_gen l _ (saidE_nodup i s E)).2.2]
  unfold saidE
  rw [(saidE_gen E [] List.nodup_nil).2.2]
  simp
theorem what_some {g : Gram} {s : Str} {x : Itm} {y : KN} : whatI g s x = some y ↔ nxt g x = [] ∧ x.look = s ∧ ((x.prod = none ∧ y = (3, 0)) ∨ ∃ p : Nat, x.prod = some p ∧ y = (2, (p : Int))) := by
  unfold whatI
  by_cases h : nxt g x ≠ [] ∨ x.look ≠ s
  · rw [if_pos h]
    constructor
    · intro e; cases e
    · rintro ⟨h1, h2, _⟩
      rcases h with h | h
      · exact absurd h1 h
      · exact absurd h2 h
  · rw [if_neg h]
    have h1 : nxt g x = [] := Classical.byContradiction fun e => h (.inl e)
    have h2 : x.look = s := Classical.byContradiction fun e => h (.inr e)
    cases hp : x.prod with
    | none => simp [h1, h2, eq_comm]
    | some p => simp [h1, h2, eq_comm]

/-- An item at its end. -/
theorem nxt_nil {g : Gram} (hm : Sm g) {x : Itm} (hd : x.dot ≤ (Lr.body g x.prod).length) : nxt g x = [] ↔ x.dot = (Lr.body g x.prod).length := by
  unfold nxt Itm.rest
  rw [List.getElem?_drop, Nat.add_zero]
  by_cases h : x.dot < (Lr.body g x.prod).length
  · rw [List.getElem?_eq_getElem h]
    have hs := body_sym (List.getElem_mem h)
    constructor
    · intro e
      exfalso
      have e : (Lr.body g x.prod)[x.dot] = [] := e
      rw [e] at hs
      rcases hs with hs | ⟨p, hp, hs⟩
      · have h0 := hm.pos
        cases g with
        | nil => simp at h0
        | cons p g =>
          have := hm.head_pos (p := p) (List.mem_cons_self ..)
          have e2 : p.1 = [] := hs.symm
          rw [e2] at this
          simp at this
      · have := hm.sym_pos hp hs
        simp at this
    · intro e; omega
  · rw [List.getElem?_eq_none (by omega)]
    simp; omega
theorem some_body {g : Gram} {p : Nat} (h : p < g.length) : g[p]? = some (g[p].1, Lr.body g (some p)) := by
  rw [List.getElem?_eq_getElem h]
  simp [Lr.body, h]
/-- What is said, in words of the theory. -/
theorem said_acc {g : Gram} (hm : Sm g) {γ : List Str} {l : List Itm} (hl : ∀ i, i ∈ l ↔ Vld g γ i) (E : List Edg) (i : Nat) (s : Str) : ((3, 0) : KN) ∈ saidF g l E i s ↔ Says g γ s .accept := by
  rw [saidF_mem]
  constructor
  · rintro (⟨j, _, _, h⟩ | ⟨x, hx, h⟩)
    · cases h
    · obtain ⟨h1, h2, h3⟩ := what_some.1 h
      have hv := (hl x).1 hx
      rcases h3 with ⟨hp, _⟩ | ⟨p, _, h3⟩
      · have hd := (nxt_nil hm hv.rest_le).1 h1
        obtain ⟨_, hz⟩ := hv.zero hp
        rw [hp] at hd
        obtain ⟨xp, xd, xl⟩ := x
        simp only at hp hz h2 hd
        subst hp
        simp [Lr.body] at hd
        subst hd
        rw [hz] at hv h2
        exact ⟨h2.symm, hv⟩
      · cases h3
  · rintro ⟨rfl, hv⟩
    exact .inr ⟨_, (hl _).2 hv, what_some.2 ⟨(nxt_nil hm hv.rest_le).2 (by simp [Lr.body]), rfl, .inl ⟨rfl, rfl⟩⟩⟩
theorem said_red {g : Gram} (hm : Sm g) {γ : List Str} {l : List Itm} (hl : ∀ i, i ∈ l ↔ Vld g γ i) (E : List Edg) (i : Nat) (s : Str) (n : Int) : ((2, n) : KN) ∈ saidF g l E i s ↔ ∃ p : Nat, n = (p : Int) ∧ Says g γ s (.reduce p) := by
  rw [saidF_mem]
  constructor
  · rintro (⟨j, _, _, h⟩ | ⟨x, hx, h⟩)
    · cases h
    · obtain ⟨h1, h2, h3⟩ := what_some.1 h
      have hv := (hl x).1 hx
      rcases h3 with ⟨_, h3⟩ | ⟨p, hp, h3⟩
      · cases h3
      · cases h3
        have hd := (nxt_nil hm hv.rest_le).1 h1
        obtain ⟨xp, xd, xl⟩ := x
        simp only at hp h2 hd
        subst hp; subst h2; subst hd
        exact ⟨p, rfl, _, _, some_body (hv.lt rfl), hv⟩
  · rintro ⟨p, rfl, A, b, hp, hv⟩
    have hb : Lr.body g (some p) = b := by simp [Lr.body, hp]
    exact .inr ⟨_, (hl _).2 hv, what_some.2 ⟨(nxt_nil hm hv.rest_le).2 (by rw [hb]), rfl, .inr ⟨p, rfl, rfl⟩⟩⟩
theorem said_sh {g : Gram} {l : List Itm} {E : List Edg} {i : Nat} {s : Str} {n : Int} : ((1, n) : KN) ∈ saidF g l E i s ↔ ∃ j : Nat, n = (j : Int) ∧ (i, s, j) ∈ E ∧ greatB s = false := by
  rw [saidF_mem]
  constructor
  · rintro (⟨j, h1, h2, h⟩ | ⟨x, hx, h⟩)
    · cases h; exact ⟨j, rfl, h1, h2⟩
    · obtain ⟨_, _, ⟨_, h3⟩ | ⟨p, _, h3⟩⟩ := what_some.1 h <;> cases h3
  · rintro ⟨j, rfl, h1, h2⟩
    exact .inl ⟨j, h1, h2, rfl⟩
theorem said_kinds {g : Gram} {l : List Itm} {E : List Edg} {i : Nat} {s : Str} {y : KN} (h : y ∈ saidF g l E i s) : (∃ j : Nat, y = (1, (j : Int))) ∨ (∃ p : Nat, y = (2, (p : Int))) ∨ y = (3, 0) := by
  rcases saidF_mem.1 h with ⟨j, _, _, h⟩ | ⟨x, _, h⟩
  · exact .inl ⟨j, h⟩
  · obtain ⟨_, _, ⟨_, h3⟩ | ⟨p, _, h3⟩⟩ := what_some.1 h
    · exact .inr (.inr h3)
    · exact .inr (.inl ⟨p, h3⟩)
/-- A symbol that is not great, behind a row: it is no head. -/
theorem sym_small {g : Gram} (hm : Sm g) {s : Str} (h : SymIn g s) : greatB s = isHead g s := by
  rcases h with rfl | ⟨p, hp, hs⟩
  · have h0 := hm.pos
    cases g with
    | nil => simp at h0
    | cons p g =>
      have h1 := (hm.head p (List.mem_cons_self ..)).2
      have h2 : isHead (p :: g) p.1 = true := isHead_iff.2 ⟨p.2, List.mem_cons_self ..⟩
      show greatB p.1 = isHead (p :: g) p.1
      rw [h1, h2]
  · exact hm.great_iff hp hs
theorem said_shift {g : Gram} (hm : Sm g) {Γ : List (List Str)} {a : List (List Itm)} {E : List Edg} (hT : Lr.Told g Γ a E) {i : Nat} {γ : List Str} (hγ : Γ[i]? = some γ) (l : List Itm) (s : Str) :
    (∃ n, ((1, n) : KN) ∈ saidF g l E i s) ↔ Says g γ s .shift := by
  constructor
  · rintro ⟨n, h⟩
    obtain ⟨j, rfl, h1, h2⟩ := said_sh.1 h
    have he : EdgeC g Γ i s j := (hT.edges (i, s, j)).1 h1
    obtain ⟨γ', δ, e1, e2, e3, e4⟩ := he
    rw [hγ] at e1; cases e1
    obtain ⟨x, δ', h3, h4⟩ := e3.shf
    exact ⟨by rw [← sym_small hm e3.sym]; exact h2, x, δ', h3, h4⟩
  · rintro ⟨hh, x, δ, h3, h4⟩
    obtain ⟨j, hj⟩ := hT.full.edge hγ (live_snoc h3 h4)
    exact ⟨j, said_sh.2 ⟨j, rfl, (hT.edges (i, s, j)).2 hj, by rw [sym_small hm (body_sym (rest_body h4))]; exact hh⟩⟩
end Go.Proofs.YtdejcdmgcckmoaaGreatDoor
namespace Lr

/-! The parser that the tables drive. -/
section
variable {g : Gram}
theorem Says.same {γ δ : List Str} (h : Same g δ γ) {a : Str} {x : Does} : Says g δ a x ↔ Says g γ a x := by
  cases x with
  | shift => exact ⟨fun ⟨h1, i, d, h2, h3⟩ => ⟨h1, i, d, (h i).1 h2, h3⟩, fun ⟨h1, i, d, h2, h3⟩ => ⟨h1, i, d, (h i).2 h2, h3⟩⟩
  | reduce p => exact ⟨fun ⟨A, b, h1, h2⟩ => ⟨A, b, h1, (h _).1 h2⟩, fun ⟨A, b, h1, h2⟩ => ⟨A, b, h1, (h _).2 h2⟩⟩
  | accept => exact ⟨fun ⟨h1, h2⟩ => ⟨h1, (h _).1 h2⟩, fun ⟨h1, h2⟩ => ⟨h1, (h _).2 h2⟩⟩
/-- Where a production stands, its head may follow what stood ahead of it. -/
theorem Vld.origin {γ : List Str} {i : Itm} (h : Vld g γ i) : ∀ {n : Nat}, i.prod = some n → ∃ α A b j δ, γ = α ++ (body g i.prod).take i.dot ∧ g[n]? = some (A, b) ∧ Vld g α j ∧ j.rest g = A :: δ := by
  induction h with
  | init => intro n h; cases h
  | @close γ i B c b δ n0 hv hr hn hf _ =>
    intro n h
    cases h
    exact ⟨γ, B, b, i, δ, by simp, hn, hv, hr⟩
  | @shift γ i X δ hv hr ih =>
    intro n h
    obtain ⟨α, A, b, j, δ', h1, h2, h3, h4⟩ := ih h
    refine ⟨α, A, b, j, δ', ?_, h2, h3, h4⟩
    have := Itm.take_succ hr
    simp only []
    rw [this, ← List.append_assoc, ← h1]
theorem Says.reduce_from {γ : List Str} {a : Str} {p : Nat} (h : Says g γ a (.reduce p)) : ∃ α A b, g[p]? = some (A, b) ∧ γ = α ++ b ∧ Vld g (α ++ b) ⟨some p, b.length, a⟩ ∧ Live g (α ++ [A]) := by
  obtain ⟨A, b, hp, hv⟩ := h
  have hb : body g (some p) = b := by simp [body, hp]
  obtain ⟨α, A', b', j, δ, h1, h2, h3, h4⟩ := hv.origin rfl
  rw [hp] at h2
  cases h2
  simp only [hb, List.take_length] at h1
  exact ⟨α, A, b, hp, h1, by rw [← h1]; exact hv, live_snoc h3 h4⟩
/-- The parser's stack of states, against a row of symbols. -/
structure Stk (g : Gram) (Γ : List (List Str)) (γ : List Str) (st : List Nat) : Prop where
  len : st.length = γ.length + 1
  row : ∀ i k, st[i]? = some k → ∃ δ, Γ[k]? = some δ ∧ Same g δ (γ.take i)
theorem Stk.init {Γ : List (List Str)} (h : GamOk g Γ) : Stk g Γ [] [0] := by
  refine ⟨rfl, fun i k hk => ?_⟩
  obtain ⟨h1, h2⟩ := List.getElem?_eq_some_iff.1 hk
  simp at h1
  subst h1
  simp at h2
  subst h2
  exact ⟨[], h.zero, by simpa using Same.refl _⟩
theorem Stk.top {Γ : List (List Str)} {γ : List Str} {st : List Nat} (h : Stk g Γ γ st) : ∃ k δ, st[st.length - 1]? = some k ∧ Γ[k]? = some δ ∧ Same g δ γ := by
  have hl := h.len
  have hlt : st.length - 1 < st.length := by omega
  obtain ⟨δ, h1, h2⟩ := h.row _ _ (List.getElem?_eq_getElem hlt)
  refine ⟨_, δ, List.getElem?_eq_getElem hlt, h1, ?_⟩
  rwa [List.take_of_length_le (by omega)] at h2
theorem Stk.push {Γ : List (List Str)} {γ : List Str} {st : List Nat} (h : Stk g Γ γ st) {X : Str} {k j : Nat} (hk : st[st.length - 1]? = some k) (he : EdgeC g Γ k X j) : Stk g Γ (γ ++ [X]) (st ++ [j]) := by
  have hl := h.len
  obtain ⟨k', δ, e1, e2, e3⟩ := h.top
  rw [hk] at e1; cases e1
  refine ⟨by simp [hl], fun i m hm => ?_⟩
  rcases getElem?_snoc hm with hm | ⟨rfl, rfl⟩
  · have hi := (List.getElem?_eq_some_iff.1 hm).1
    obtain ⟨δ', h1, h2⟩ := h.row i m hm
    exact ⟨δ', h1, by rw [List.take_append_of_le_length (by omega)]; exact h2⟩
  · obtain ⟨γ1, γ2, a1, a2, _, a4⟩ := he
    rw [e2] at a1; cases a1
    refine ⟨γ2, a2, ?_⟩
    rw [List.take_of_length_le (by simp; omega)]
    exact a4.trans (e3.snoc X)
theorem Stk.drop {Γ : List (List Str)} {α b : List Str} {st : List Nat} (h : Stk g Γ (α ++ b) st) : Stk g Γ α (st.take (st.length - b.length)) := by
  have hl := h.len
  rw [List.length_append] at hl
  refine ⟨by rw [List.length_take]; omega, fun i k hk => ?_⟩
  have hi := (List.getElem?_eq_some_iff.1 hk).1
  rw [List.length_take] at hi
  rw [List.getElem?_take_of_lt (by omega)] at hk
  obtain ⟨δ, h1, h2⟩ := h.row i k hk
  exact ⟨δ, h1, by rwa [List.take_append_of_le_length (by omega)] at h2⟩
/-- The parser under way. -/
structure Drv (g : Gram) (Γ : List (List Str)) (w γ r : List Str) (ps st : List Nat) : Prop where
  run : Run g [] (w ++ [endS]) ps γ r
  stk : Stk g Γ γ st
  fin : ∃ r', r = r' ++ [endS]
  cnt : st.length + r.length ≤ w.length + 2 + ps.length
theorem Drv.init {Γ : List (List Str)} (h : GamOk g Γ) (w : List Str) : Drv g Γ w [] (w ++ [endS]) [] [0] := ⟨.refl, .init h, ⟨w, rfl⟩, by simp; omega⟩
theorem Drv.shift (hn : NoEnd g) {Γ : List (List Str)} {w γ r : List Str} {ps st : List Nat} {a : Str} (h : Drv g Γ w γ (a :: r) ps st) {k j : Nat} (hk : st[st.length - 1]? = some k) (he : EdgeC g Γ k a j) (hs : Says g γ a .shift) : Drv g Γ w (γ ++ [a]) r ps (st ++ [j]) := by
  obtain ⟨hh, i, δ, hi, hr⟩ := hs
  have hne : a ≠ endS := by
    rintro rfl
    rcases body_sym (rest_body hr) with e | ⟨p, hp, e⟩
    · exact hn.start e.symm
    · exact hn.body p hp e
  refine ⟨?_, h.stk.push hk he, ?_, by have := h.cnt; simp at this ⊢; omega⟩
  · have := h.run.trans (.shift hi hr hh .refl)
    simpa using this
  · obtain ⟨r', e⟩ := h.fin
    cases r' with
    | nil => simp at e; exact absurd e.1 hne
    | cons b r' => simp at e; exact ⟨r', e.2⟩
theorem Drv.reduce {Γ : List (List Str)} {w γ r : List Str} {ps st : List Nat} {a : Str} (h : Drv g Γ w γ (a :: r) ps st) (hF : Full g Γ) {p : Nat} (hs : Says g γ a (.reduce p)) :
    ∃ A b α k j, g[p]? = some (A, b) ∧ b.length + 1 ≤ st.length ∧ (st.take (st.length - b.length))[st.length - b.length - 1]? = some k ∧ EdgeC g Γ k A j ∧ Drv g Γ w (α ++ [A]) (a :: r) (ps ++ [p]) (st.take (st.length - b.length) ++ [j]) := by
  obtain ⟨α, A, b, hp, rfl, hv, hl⟩ := hs.reduce_from
  have hd := h.stk.drop
  have hlen := h.stk.len
  rw [List.length_append] at hlen
  have hdl : (st.take (st.length - b.length)).length = st.length - b.length := by rw [List.length_take]; omega
  obtain ⟨k, δ, h1, h2, h3⟩ := hd.top
  obtain ⟨j, hj⟩ := hF.edge h2 (hl.same (h3.snoc A).symm)
  refine ⟨A, b, α, k, j, hp, by omega, by rw [hdl] at h1; exact h1, hj, ?_, hd.push h1 hj, h.fin, ?_⟩
  · exact h.run.trans (.reduce hp hv .refl)
  · have := h.cnt
    simp at this ⊢; omega
theorem Drv.ne {Γ : List (List Str)} {w γ : List Str} {ps st : List Nat} (h : Drv g Γ w γ [] ps st) : False := by
  obtain ⟨r', e⟩ := h.fin
  simp at e
theorem Drv.le {Γ : List (List Str)} {w γ r : List Str} {ps st : List Nat} (h : Drv g Γ w γ r ps st) : r.length ≤ w.length + 1 := by
  have := h.run.len
  simpa using this
/-- A grammar that is clean: nowhere two. -/
theorem look_term {γ : List Str} {i : Itm} (hn : NoEnd g) (h : Vld g γ i) : isHead g i.look = false := by
  induction h with
  | init => exact hn.head
  | close _ _ _ hf ih =>
    rcases hf with ⟨n, h⟩ | ⟨_, rfl⟩
    · exact h.term_of
    · exact ih
  | shift _ _ ih => exact ih
theorem Says.live {γ : List Str} {a : Str} {x : Does} (h : Says g γ a x) : Live g γ := by
  cases x with
  | shift => obtain ⟨_, i, _, h, _⟩ := h; exact ⟨i, h⟩
  | reduce p => obtain ⟨_, _, _, h⟩ := h; exact ⟨_, h⟩
  | accept => exact ⟨_, h.2⟩
theorem Says.look (hn : NoEnd g) (hst : isHead g (start g) = true) {γ : List Str} {a : Str} {x : Does} (h : Says g γ a x) : a = endS ∨ (isHead g a = false ∧ ∃ p ∈ g, a ∈ p.2) := by
  have key : ∀ {a : Str}, a ∈ looksU g → isHead g a = false → a = endS ∨ (isHead g a = false ∧ ∃ p ∈ g, a ∈ p.2) := fun h1 h2 => by
    rcases List.mem_cons.1 h1 with h | h
    · exact .inl h
    · obtain ⟨p, hp, h⟩ := List.mem_flatMap.1 h
      exact .inr ⟨h2, p, hp, h⟩
  cases x with
  | shift =>
    obtain ⟨hh, i, δ, hi, hr⟩ := h
    rcases body_sym (rest_body hr) with rfl | h
    · rw [hst] at hh; cases hh
    · exact .inr ⟨hh, h⟩
  | reduce p =>
    obtain ⟨_, _, _, hv⟩ := h
    exact key hv.look (look_term hn hv)
  | accept => exact .inl h.1
end
end Lr

/- Texts of items; items made. -/
import Derived.Test.YtdejcdmgcckmoaaGreatDoorYL
import Derived.Test.YtdejcdmgcckmoaaGreatDoorYH
import Derived.Test.YtdejcdmgcckmoaaGreatDoorYA
import Derived.Test.YtdejcdmgcckmoaaGreatDoorYG
import Derived.Test.YtdejcdmgcckmoaaGreatDoorYB
import Derived.Test.YtdejcdmgcckmoaaGreatDoorYC
namespace Go.Proofs.YtdejcdmgcckmoaaGreatDoor
open Lr

def Lets (s : Str) : Prop := ∀ c ∈ s, letterB c = true
/-- What begins with no letter. -/
def NoLet (x : Str) : Prop := ∃ c r, x = c :: r ∧ letterB c = false
theorem let_prefix : ∀ {s s' x x' : Str}, Lets s → Lets s' → NoLet x → NoLet x' → s ++ x = s' ++ x' → s = s' ∧ x = x'
  | [], [], _, _, _, _, _, _, e => ⟨rfl, e⟩
  | [], c :: s', x, _, _, h', ⟨d, r, hx, hd⟩, _, e => by
    subst hx
    rw [List.nil_append, List.cons_append] at e
    have h1 := (List.cons.inj e).1
    have h2 := h' c (List.mem_cons_self ..)
    rw [← h1, hd] at h2
    cases h2
  | c :: s, [], _, x', h, _, _, ⟨d, r, hx, hd⟩, e => by
    subst hx
    rw [List.nil_append, List.cons_append] at e
    have h1 := (List.cons.inj e).1
    have h2 := h c (List.mem_cons_self ..)
    rw [h1, hd] at h2
    cases h2
  | c :: s, c' :: s', x, x', h, h', hx, hx', e => by
    rw [List.cons_append, List.cons_append] at e
    obtain ⟨h1, h2⟩ := List.cons.inj e
    obtain ⟨h3, h4⟩ := let_prefix (fun d hd => h d (List.mem_cons_of_mem _ hd)) (fun d hd => h' d (List.mem_cons_of_mem _ hd)) hx hx' h2
    exact ⟨by rw [h1, h3], h4⟩

def predD : Option Nat → Option Nat
  | some (k + 1) => some k
  | _ => none
def dotIf (d : Option Nat) : Str := if d = some 0 then dotS else []
/-- The text of an item behind its head, from a place on. -/
def tailT (look : Str) : Option Nat → List Str → Str
  | d, [] => dotIf d ++ (lqS ++ (look ++ rqS))
  | d, s :: r => dotIf d ++ (s ++ ((if r = [] then [] else [32]) ++ tailT look (predD d) r))
theorem body_tail (look : Str) (pos n : Nat) : ∀ (l : List Str) (i : Nat) (d : Option Nat), n = i + l.length → (∀ k, d = some k ↔ pos = i + k) → bodyT pos n i l ++ ((if pos = n then dotS else []) ++ (lqS ++ (look ++ rqS))) = tailT look d l
  | [], i, d, hn, hd => by
    have e : (pos = n) ↔ d = some 0 := by rw [hd 0, hn]; simp
    unfold bodyT tailT dotIf
    by_cases h : d = some 0
    · rw [if_pos h, if_pos (e.2 h)]; rfl
    · rw [if_neg h, if_neg (fun h' => h (e.1 h'))]; rfl
  | s :: r, i, d, hn, hd => by
    have e : (pos = i) ↔ d = some 0 := by rw [hd 0]; simp
    have ih := body_tail look pos n r (i + 1) (predD d) (by rw [hn]; simp; omega) (fun k => by
      cases d with
      | none =>
        have := hd (k + 1)
        simp [predD] at this ⊢
        omega
      | some m =>
        have h1 := (hd m).1 rfl
        cases m with
        | zero => simp [predD]; omega
        | succ m => simp [predD]; omega)
    unfold bodyT tailT
    rw [← ih]
    have e2 : (if i + 1 < n then ([32] : Str) else []) = if r = [] then [] else [32] := by
      by_cases hr : r = []
      · subst hr; simp at hn; rw [if_neg (by omega), if_pos rfl]
      · have := List.length_pos_iff.2 hr
        simp at hn
        rw [if_pos (by omega), if_neg hr]
    rw [e2]
    unfold dotIf
    by_cases h : d = some 0
    · rw [if_pos h, if_pos (e.2 h)]; simp only [List.append_assoc]
    · rw [if_neg h, if_neg (fun h' => h (e.1 h'))]; simp only [List.append_assoc, List.nil_append]
theorem tail_noLet (look : Str) (d : Option Nat) : NoLet (tailT look d []) := by
  unfold tailT dotIf
  by_cases h : d = some 0
  · rw [if_pos h]; exact ⟨226, _, rfl, by decide⟩
  · rw [if_neg h]; exact ⟨32, _, rfl, by decide⟩
theorem sep_noLet (look : Str) (d : Option Nat) (r : List Str) : NoLet ((if r = [] then [] else [32]) ++ tailT look d r) := by
  by_cases h : r = []
  · subst h; rw [if_pos rfl, List.nil_append]; exact tail_noLet look d
  · rw [if_neg h]; exact ⟨32, _, rfl, by decide⟩
/-- A text that begins with a letter or with the dot, not with a blank. -/
theorem tail_first (look : Str) (d : Option Nat) {s : Str} {r : List Str} (hs : Lets s) (h0 : s ≠ []) : ∃ c x, tailT look d (s :: r) = c :: x ∧ ((d = some 0 ∧ c = 226) ∨ (d ≠ some 0 ∧ letterB c = true)) := by
  unfold tailT dotIf
  by_cases h : d = some 0
  · rw [if_pos h]; exact ⟨226, _, rfl, .inl ⟨h, rfl⟩⟩
  · rw [if_neg h]
    cases s with
    | nil => exact absurd rfl h0
    | cons c s => exact ⟨c, _, rfl, .inr ⟨h, hs c (List.mem_cons_self ..)⟩⟩
theorem dot_same {look look' : Str} {d d' : Option Nat} {l l' : List Str} (hl : ∀ s ∈ l, Lets s ∧ s ≠ []) (hl' : ∀ s ∈ l', Lets s ∧ s ≠ []) (e : tailT look d l = tailT look' d' l') : (d = some 0 ↔ d' = some 0) := by
  have key : ∀ (look : Str) (d : Option Nat) (l : List Str), (∀ s ∈ l, Lets s ∧ s ≠ []) → ∃ c x, tailT look d l = c :: x ∧ (d = some 0 ↔ c = 226) := by
    intro look d l hl
    cases l with
    | nil =>
      unfold tailT dotIf
      by_cases h : d = some 0
      · rw [if_pos h]; exact ⟨226, _, rfl, by simp [h]⟩
      · rw [if_neg h]; exact ⟨32, _, rfl, by simp [h]⟩
    | cons s r =>
      obtain ⟨c, x, h1, h2⟩ := tail_first look d (r := r) (hl s (List.mem_cons_self ..)).1 (hl s (List.mem_cons_self ..)).2
      refine ⟨c, x, h1, ?_⟩
      rcases h2 with ⟨h2, rfl⟩ | ⟨h2, h3⟩
      · simp [h2]
      · constructor
        · intro h; exact absurd h h2
        · rintro rfl; exact absurd h3 (by decide)
  obtain ⟨c, x, h1, h2⟩ := key look d l hl
  obtain ⟨c', x', h1', h2'⟩ := key look' d' l' hl'
  rw [h1, h1'] at e
  rw [h2, h2', (List.cons.inj e).1]
theorem tail_inj {look look' : Str} : ∀ {l l' : List Str} {d d' : Option Nat}, (∀ s ∈ l, Lets s ∧ s ≠ []) → (∀ s ∈ l', Lets s ∧ s ≠ []) → (∀ k, d = some k → k ≤ l.length) → (∀ k, d' = some k → k ≤ l'.length) → tailT look d l = tailT look' d' l' → d = d' ∧ l = l' ∧ look = look'
  | l, l', d, d', hl, hl', hd, hd', e => by
    have hdd := dot_same hl hl' e
    have e1 : dotIf d = dotIf d' := by unfold dotIf; simp [hdd]
    match l, l' with
    | [], [] =>
      unfold tailT at e
      rw [e1] at e
      have e2 := List.append_cancel_left (List.append_cancel_left e)
      have e3 := List.append_cancel_right e2
      refine ⟨?_, rfl, e3⟩
      cases d with
      | none =>
        cases d' with
        | none => rfl
        | some k =>
          have := hd' k rfl
          simp at this
          subst this
          simp at hdd
      | some k =>
        have h1 := hd k rfl
        simp at h1
        subst h1
        exact (hdd.1 rfl).symm
    | [], s :: r =>
      exfalso
      unfold tailT at e
      rw [e1] at e
      have e2 := List.append_cancel_left e
      have hs := hl' s (List.mem_cons_self ..)
      cases s with
      | nil => exact hs.2 rfl
      | cons c s =>
        have := hs.1 c (List.mem_cons_self ..)
        have e3 : (32 : UInt8) = c := (List.cons.inj e2).1
        rw [← e3] at this
        exact absurd this (by decide)
    | s :: r, [] =>
      exfalso
      unfold tailT at e
      rw [e1] at e
      have e2 := List.append_cancel_left e
      have hs := hl s (List.mem_cons_self ..)
      cases s with
      | nil => exact hs.2 rfl
      | cons c s =>
        have := hs.1 c (List.mem_cons_self ..)
        have e3 : c = (32 : UInt8) := (List.cons.inj e2).1
        rw [e3] at this
        exact absurd this (by decide)
    | s :: r, s' :: r' =>
      rw [tailT, tailT, e1] at e
      have e2 := List.append_cancel_left e
      obtain ⟨rfl, e3⟩ := let_prefix (hl s (List.mem_cons_self ..)).1 (hl' s' (List.mem_cons_self ..)).1 (sep_noLet look (predD d) r) (sep_noLet look' (predD d') r') e2
      have hlr : ∀ s ∈ r, Lets s ∧ s ≠ [] := fun x hx => hl x (List.mem_cons_of_mem _ hx)
      have hlr' : ∀ s ∈ r', Lets s ∧ s ≠ [] := fun x hx => hl' x (List.mem_cons_of_mem _ hx)
      have hp : ∀ (d : Option Nat) (n : Nat), (∀ k, d = some k → k ≤ n + 1) → ∀ k, predD d = some k → k ≤ n := by
        intro d n h k hk
        match d with
        | none => cases hk
        | some 0 => cases hk
        | some (m + 1) =>
          have h1 := h (m + 1) rfl
          simp [predD] at hk
          omega
      have key : tailT look (predD d) r = tailT look' (predD d') r' := by
        by_cases h : r = []
        · by_cases h' : r' = []
          · rw [if_pos h, if_pos h'] at e3; exact e3
          · exfalso
            rw [if_pos h, if_neg h', h] at e3
            cases r' with
            | nil => exact h' rfl
            | cons t r' =>
              obtain ⟨c, x, h1, h2⟩ := tail_first look' (predD d') (r := r') (hlr' t (List.mem_cons_self ..)).1 (hlr' t (List.mem_cons_self ..)).2
              rw [h1] at e3
              unfold tailT dotIf at e3
              by_cases hz : predD d = some 0
              · rw [if_pos hz] at e3
                have : (226 : UInt8) = 32 := (List.cons.inj e3).1
                exact absurd this (by decide)
              · rw [if_neg hz] at e3
                have : (194 : UInt8) = c := (List.cons.inj (List.cons.inj e3).2).1
                rcases h2 with ⟨_, h2⟩ | ⟨_, h2⟩
                · rw [h2] at this; exact absurd this (by decide)
                · rw [← this] at h2; exact absurd h2 (by decide)
        · by_cases h' : r' = []
          · exfalso
            rw [if_neg h, if_pos h', h'] at e3
            cases r with
            | nil => exact h rfl
            | cons t r =>
              obtain ⟨c, x, h1, h2⟩ := tail_first look (predD d) (r := r) (hlr t (List.mem_cons_self ..)).1 (hlr t (List.mem_cons_self ..)).2
              rw [h1] at e3
              unfold tailT dotIf at e3
              by_cases hz : predD d' = some 0
              · rw [if_pos hz] at e3
                have : (32 : UInt8) = 226 := (List.cons.inj e3).1
                exact absurd this (by decide)
              · rw [if_neg hz] at e3
                have : c = (194 : UInt8) := (List.cons.inj (List.cons.inj e3).2).1
                rcases h2 with ⟨_, h2⟩ | ⟨_, h2⟩
                · rw [h2] at this; exact absurd this (by decide)
                · rw [this] at h2; exact absurd h2 (by decide)
          · rw [if_neg h, if_neg h'] at e3
            exact List.append_cancel_left e3
      obtain ⟨g1, rfl, g3⟩ := tail_inj hlr hlr' (hp d r.length (fun k hk => by have := hd k hk; simpa using this)) (hp d' r'.length (fun k hk => by have := hd' k hk; simpa using this)) key
      refine ⟨?_, rfl, g3⟩
      match d, d' with
      | none, none => rfl
      | none, some 0 => simp at hdd
      | none, some (k + 1) => simp [predD] at g1
      | some 0, none => simp at hdd
      | some 0, some 0 => rfl
      | some 0, some (k + 1) => simp at hdd
      | some (k + 1), none => simp [predD] at g1
      | some (k + 1), some 0 => simp at hdd
      | some (k + 1), some (m + 1) => simp [predD] at g1; rw [g1]
termination_by l => l.length
end Go.Proofs.YtdejcdmgcckmoaaGreatDoor
namespace Go.Proofs.YtdejcdmgcckmoaaGreatDoor
open Lr

theorem blank_prefix : ∀ {s s' x x' : Str}, (∀ c ∈ s, c ≠ 32) → (∀ c ∈ s', c ≠ 32) → s ++ 32 :: x = s' ++ 32 :: x' → s = s' ∧ x = x'
  | [], [], _, _, _, _, e => ⟨rfl, (List.cons.inj e).2⟩
  | [], c :: s', _, _, _, h', e => absurd (List.cons.inj e).1.symm (h' c (List.mem_cons_self ..))
  | c :: s, [], _, _, h, _, e => absurd (List.cons.inj e).1 (h c (List.mem_cons_self ..))
  | c :: s, c' :: s', x, x', h, h', e => by
    rw [List.cons_append, List.cons_append] at e
    obtain ⟨h1, h2⟩ := List.cons.inj e
    obtain ⟨h3, h4⟩ := blank_prefix (fun d hd => h d (List.mem_cons_of_mem _ hd)) (fun d hd => h' d (List.mem_cons_of_mem _ hd)) h2
    exact ⟨by rw [h1, h3], h4⟩
/-- Symbols that an item's text may hold. -/
def SymL (l : List Str) : Prop := ∀ s ∈ l, Lets s ∧ s ≠ [] ∧ s ≠ emptyS
theorem str_rest (l : List Str) (pos : Nat) (look : Str) (hp : pos ≤ l.length) : ((if l = [] then emptyS else bodyT pos l.length 0 l) ++ ((if pos = l.length then dotS else []) ++ (lqS ++ (look ++ rqS)))) = (if l = [] then emptyS else []) ++ tailT look (some pos) l := by
  by_cases h : l = []
  · subst h
    simp at hp
    subst hp
    rfl
  · rw [if_neg h, if_neg h, List.nil_append]
    exact body_tail look pos l.length l 0 (some pos) (by simp) (fun k => by simp)
theorem strOf_inj {id id' look look' : Str} {l l' : List Str} {pos pos' : Nat} (hi : ∀ c ∈ id, c ≠ 32) (hi' : ∀ c ∈ id', c ≠ 32) (hl : SymL l) (hl' : SymL l') (hp : pos ≤ l.length) (hp' : pos' ≤ l'.length) (e : strOf id l pos look = strOf id' l' pos' look') : id = id' ∧ l = l' ∧ pos = pos' ∧ look = look' := by
  unfold strOf at e
  rw [str_rest l pos look hp, str_rest l' pos' look' hp'] at e
  have e0 : ∀ (i x : Str), (i ++ colS) ++ x = i ++ 32 :: (58 :: 32 :: x) := fun i x => by simp [colS]
  rw [e0, e0] at e
  obtain ⟨rfl, e1⟩ := blank_prefix hi hi' e
  have e2 := (List.cons.inj (List.cons.inj e1).2).2
  have hll : ∀ s ∈ l, Lets s ∧ s ≠ [] := fun s hs => ⟨(hl s hs).1, (hl s hs).2.1⟩
  have hll' : ∀ s ∈ l', Lets s ∧ s ≠ [] := fun s hs => ⟨(hl' s hs).1, (hl' s hs).2.1⟩
  have cross : ∀ {m : List Str} {q : Nat} {lk lk' : Str} {d : Option Nat}, SymL m → m ≠ [] → emptyS ++ tailT lk d [] = tailT lk' (some q) m → False := by
    intro m q lk lk' d hm h0 e
    cases m with
    | nil => exact h0 rfl
    | cons s r =>
      have hs := hm s (List.mem_cons_self ..)
      rw [show tailT lk' (some q) (s :: r) = dotIf (some q) ++ (s ++ ((if r = [] then [] else [32]) ++ tailT lk' (predD (some q)) r)) from rfl, show dotIf (some q) = if (some q : Option Nat) = some 0 then dotS else [] from rfl] at e
      by_cases hq : (some q : Option Nat) = some 0
      · rw [if_pos hq] at e
        have : (101 : UInt8) = 226 := (List.cons.inj e).1
        exact absurd this (by decide)
      · rw [if_neg hq, List.nil_append] at e
        exact hs.2.2 (let_prefix (by intro c hc; revert c; decide) hs.1 (tail_noLet _ _) (sep_noLet _ _ _) e).1.symm
  by_cases h : l = []
  · by_cases h' : l' = []
    · rw [if_pos h, if_pos h'] at e2
      obtain ⟨g1, g2, g3⟩ := tail_inj hll hll' (fun k hk => by cases hk; exact hp) (fun k hk => by cases hk; exact hp') (List.append_cancel_left e2)
      exact ⟨rfl, g2, Option.some.inj g1, g3⟩
    · exfalso
      rw [if_pos h, if_neg h', h] at e2
      exact cross hl' h' e2
  · by_cases h' : l' = []
    · exfalso
      rw [if_neg h, if_pos h', h'] at e2
      exact cross hl h e2.symm
    · rw [if_neg h, if_neg h'] at e2
      obtain ⟨g1, g2, g3⟩ := tail_inj hll hll' (fun k hk => by cases hk; exact hp) (fun k hk => by cases hk; exact hp') (List.append_cancel_left e2)
      exact ⟨rfl, g2, Option.some.inj g1, g3⟩

/-- The package's own sign for the end, and back. -/
def untold (s : Str) : Str := if s = endS then eofS else s
def headI (g : Gram) : Option Nat → Str
  | none => startS
  | some n => (g[n]?.getD ([], [])).1
def itemStr (g : Gram) (i : Itm) : Str := strOf (headI g i.prod) (Lr.body g i.prod) i.dot (untold i.look)
theorem let_of_ok {s : Str} (h : symbolOkB s = true) : Lets s := symbolOk_letter h
theorem body_symL {g : Gram} (hm : Sm g) (q : Option Nat) : SymL (Lr.body g q) := by
  intro s hs
  have hok : symbolOkB s = true := by
    rcases body_sym hs with rfl | ⟨p, hp, h⟩
    · rw [start_get hm.pos]; exact (hm.head _ (List.getElem_mem hm.pos)).1
    · exact hm.sym p hp s h
  exact ⟨let_of_ok hok, fun e => by have := symbolOk_pos hok; rw [e] at this; simp at this, (letters_ne hok).2.2.2⟩
theorem look_ok {g : Gram} (hm : Sm g) {c : Str} (h : c ∈ looksU g) : c = endS ∨ symbolOkB c = true := by
  rcases List.mem_cons.1 h with h | h
  · exact .inl h
  · obtain ⟨p, hp, h⟩ := List.mem_flatMap.1 h
    exact .inr (hm.sym p hp c h)
theorem end_notOk : symbolOkB endS = false := by decide
theorem untold_inj {g : Gram} (hm : Sm g) {c c' : Str} (h : c ∈ looksU g) (h' : c' ∈ looksU g) (e : untold c = untold c') : c = c' := by
  unfold untold at e
  by_cases h1 : c = endS <;> by_cases h2 : c' = endS
  · rw [h1, h2]
  · rw [if_pos h1, if_neg h2] at e
    rcases look_ok hm h' with h3 | h3
    · exact absurd h3 h2
    · exact absurd e.symm (letters_ne h3).2.1
  · rw [if_neg h1, if_pos h2] at e
    rcases look_ok hm h with h3 | h3
    · exact absurd h3 h1
    · exact absurd e (letters_ne h3).2.1
  · rw [if_neg h1, if_neg h2] at e; exact e
theorem told_untold {g : Gram} (hm : Sm g) {c : Str} (h : c ∈ looksU g) : toldS (untold c) = c := by
  unfold untold
  by_cases h1 : c = endS
  · rw [if_pos h1, h1]; rfl
  · rw [if_neg h1]
    rcases look_ok hm h with h3 | h3
    · exact absurd h3 h1
    · unfold toldS; rw [if_neg (letters_ne h3).2.1]
theorem headI_some {g : Gram} {n : Nat} (hn : n < g.length) : headI g (some n) = g[n].1 := by
  show (g[n]?.getD ([], [])).1 = _; rw [List.getElem?_eq_getElem hn]; rfl
theorem body_some {g : Gram} {n : Nat} (hn : n < g.length) : Lr.body g (some n) = g[n].2 := by
  show (g[n]?.getD ([], [])).2 = _; rw [List.getElem?_eq_getElem hn]; rfl
theorem headI_blank {g : Gram} (hm : Sm g) (q : Option Nat) : ∀ c ∈ headI g q, c ≠ 32 := by
  intro c hc
  cases q with
  | none =>
    have hs : ∀ c ∈ startS, c ≠ 32 := by decide
    exact hs c hc
  | some n =>
    change c ∈ (g[n]?.getD ([], [])).1 at hc
    cases hn : g[n]? with
    | none => rw [hn] at hc; simp at hc
    | some p =>
      rw [hn] at hc
      have := symbolOk_letter (hm.head p (List.mem_of_getElem? hn)).1 c hc
      intro e; subst e
      exact absurd this (by decide)
/-- Items of a grammar have texts of their own. -/
theorem itemStr_inj {g : Gram} (hm : Sm g) {γ γ' : List Str} {i j : Itm} (hi : Vld g γ i) (hj : Vld g γ' j) (e : itemStr g i = itemStr g j) : i = j := by
  obtain ⟨h1, h2, h3, h4⟩ := strOf_inj (headI_blank hm _) (headI_blank hm _) (body_symL hm _) (body_symL hm _) hi.rest_le hj.rest_le e
  have h5 := untold_inj hm hi.look hj.look h4
  have h6 : i.prod = j.prod := by
    cases hp : i.prod with
    | none =>
      cases hq : j.prod with
      | none => rfl
      | some m =>
        rw [hp, hq, headI_some (hj.lt hq)] at h1
        have := (letters_ne (hm.head _ (List.getElem_mem (hj.lt hq))).1).1
        exact absurd h1.symm this
    | some n =>
      have hn := hi.lt hp
      cases hq : j.prod with
      | none =>
        rw [hp, hq, headI_some hn] at h1
        have := (letters_ne (hm.head _ (List.getElem_mem hn)).1).1
        exact absurd h1 this
      | some m =>
        have hmm := hj.lt hq
        rw [hp, hq, headI_some hn, headI_some hmm] at h1
        rw [hp, hq, body_some hn, body_some hmm] at h2
        have : g[n] = g[m] := Prod.ext h1 h2
        rw [(List.getElem_inj (h₀ := hn) (h₁ := hmm) hm.nodup).1 this]
  cases i; cases j
  simp at h3 h5 h6
  rw [h3, h5, h6]
end Go.Proofs.YtdejcdmgcckmoaaGreatDoor
namespace Go.Proofs.YtdejcdmgcckmoaaGreatDoor
open Go.RowKit Lr

theorem drewN_blk {w : World} (n : Nat) {b : Nat} {o : Obj} : (w.drewN n).heap[b]? = some o ↔ w.heap[b]? = some o := Iff.rfl
/-- An item of the package, in its block. -/
def ItemBlk (w : World) (p : Nat) (idx : Nat) (pr : Value) (id : Str) (l : List Str) (pos : Nat) (look : Str) : Prop :=
  ∃ rb arr, w.heap[p]? = some (.cells #[.int .i64 idx, pr, sv id, .slice (some ⟨rb, 0, none⟩) l.length l.length, .int .i64 pos, sv (l.getD pos []), sv look, .int .i64 l.length, sv (strOf id l pos look)] 99 (0, 0)) ∧
    w.heap[rb]? = some (.cells arr 9 (0, 0)) ∧ ∀ j, (hj : j < l.length) → arr[j]? = some (sv l[j])
/-- Blocks of items and of texts stay. -/
def Kp (w w' : World) : Prop := ∀ (k : Nat) (c : Array Value) (t : TypeId) (f : Nat × Nat), w.heap[k]? = some (.cells c t f) → (t = 99 ∨ t = 9) → w'.heap[k]? = some (.cells c t f)
theorem Kp.refl (w : World) : Kp w w := fun _ _ _ _ h _ => h
theorem Kp.trans {a b c : World} (h : Kp a b) (k : Kp b c) : Kp a c := fun x y z f e1 e2 => k x y z f (h x y z f e1 e2) e2
theorem Kp.of_new {w w' : World} (h : New w w') : Kp w w' := fun _ _ _ _ e _ => h.heap e
theorem ItemBlk.kp {w w' : World} {p idx : Nat} {pr : Value} {id look : Str} {l : List Str} {pos : Nat} (h : ItemBlk w p idx pr id l pos look) (hk : Kp w w') : ItemBlk w' p idx pr id l pos look := by
  obtain ⟨rb, arr, h1, h2, h3⟩ := h
  exact ⟨rb, arr, hk _ _ _ _ h1 (.inl rfl), hk _ _ _ _ h2 (.inr rfl), h3⟩
theorem ItemBlk.new {w w' : World} {p idx : Nat} {pr : Value} {id look : Str} {l : List Str} {pos : Nat} (h : ItemBlk w p idx pr id l pos look) (hn : New w w') : ItemBlk w' p idx pr id l pos look := h.kp (Kp.of_new hn)

theorem blk_setOther {w : World} {a : Addr} {b : Nat} {o : Obj} (h : w.heap[b]? = some o) (hne : a.block ≠ b) (u : Value) : (w.setCell a u).heap[b]? = some o := by
  simp [World.setCell, Array.getElem?_modify, hne, h]
set_option maxRecDepth 20000 in
set_option maxHeartbeats 1000000 in
theorem NewItem_empty {w : World} {pb q : Nat} {sa : Option Addr} {sc idx : Nat} {id look : Str} (h0 : w.cell? ⟨pb, 0, none⟩ = some (sv id)) (h1 : w.cell? ⟨pb, 1, none⟩ = some (.pointer (some ⟨q, 0, none⟩))) (h2 : w.cell? ⟨q, 1, none⟩ = some (.slice sa 1 sc))
    (h3 : SysAt w (.slice sa 1 sc) [.em]) (hid : id.length ≤ 1000) (hlk : look.length ≤ 1000) :
    Calls Tryz.prog 180 #[.int .i64 idx, .pointer (some ⟨pb, 0, none⟩), .int .i64 0, sv look] w fun e w' => ∃ p, e = .returned (.pointer (some ⟨p, 0, none⟩)) ∧ w.heap.size ≤ p ∧ ItemBlk w' p idx (.pointer (some ⟨pb, 0, none⟩)) id [] 0 look ∧ New w w' := by
  obtain ⟨b, o, e, d1⟩ := h3.elem (k := 0) (by simp)
  cases e
  simp only [Nat.add_zero, List.getElem_cons_zero, Sy.val] at d1
  have hmm := met144
  have lpb := lt_of_cell h0
  have lq := lt_of_cell h2
  have lb := lt_of_cell d1
  have hmk : ∀ W : World, (Instr.makeSlice 24 (.int .i64 0) (.int .i64 0)).run Tryz.prog W = .ok (.slice (some ⟨W.heap.size, 0, none⟩) 0 0) (W.alloc (.cells #[] 9)) := fun _ => by kernel_rfl
  clear h3
  go_enter Tryz.func180, Tryz.ntmps180
  go_wp2_with (first | (go_at_call 308; refine (SymStr_em _ _).mono ?_; rintro e w' ⟨rfl, rfl⟩))
  go_quiet (fail)
  go_wp2_with fail
  have q0 := New.heap ((New.refl (w.alloc (.cells #[.int .i64 idx, .pointer (some ⟨pb, 0, none⟩), sv id, .slice (some ⟨w.heap.size + 1, 0, none⟩) 0 0, .int .i64 0, sv [], sv look, .int .i64 0, sv []] 99))).alloc (.cells #[] 9)) (heap_alloc_new w _)
  have q1 := set_of_blk ((drewN_blk nq).2 q0) 5 (sv [])
  have q2 : New w ((((w.alloc (.cells #[.int .i64 idx, .pointer (some ⟨pb, 0, none⟩), sv id, .slice (some ⟨w.heap.size + 1, 0, none⟩) 0 0, .int .i64 0, sv [], sv look, .int .i64 0, sv []] 99)).alloc (.cells #[] 9)).drewN nq).setCell ⟨w.heap.size, 5, none⟩ (sv [])) := ((((New.refl w).alloc _).alloc _).drewN nq).setCell (by simp) _
  have q3 : ((((w.alloc (.cells #[.int .i64 idx, .pointer (some ⟨pb, 0, none⟩), sv id, .slice (some ⟨w.heap.size + 1, 0, none⟩) 0 0, .int .i64 0, sv [], sv look, .int .i64 0, sv []] 99)).alloc (.cells #[] 9)).drewN nq).setCell ⟨w.heap.size, 5, none⟩ (sv [])).heap[w.heap.size + 1]? = some (.cells #[] 9 (0, 0)) := by
    refine blk_setOther ((drewN_blk nq).2 ?_) (by simp) _
    have := heap_alloc_new (w.alloc (.cells #[.int .i64 idx, .pointer (some ⟨pb, 0, none⟩), sv id, .slice (some ⟨w.heap.size + 1, 0, none⟩) 0 0, .int .i64 0, sv [], sv look, .int .i64 0, sv []] 99)) (.cells #[] 9)
    simpa using this
  generalize (((w.alloc (.cells #[.int .i64 idx, .pointer (some ⟨pb, 0, none⟩), sv id, .slice (some ⟨w.heap.size + 1, 0, none⟩) 0 0, .int .i64 0, sv [], sv look, .int .i64 0, sv []] 99)).alloc (.cells #[] 9)).drewN nq).setCell ⟨w.heap.size, 5, none⟩ (sv []) = W at *
  have hl0 : StrsAt W (.slice (some ⟨w.heap.size + 1, 0, none⟩) 0 0) [] := ⟨_, 0, rfl, Nat.le_refl _, fun h => by simp at h⟩
  have HQ := Lib.hid (And.intro q1 (And.intro q2 q3))
  have hq := Lib.hid (getString_any (w := W) (p := w.heap.size) (pos := 0) (l := []) q1 hl0 (by simp) (by simp) hid hlk (by simp))
  clear q0 q1 q2 q3 hl0 h0 h1 h2 d1
  refine hq.out.mono ?_
  rintro e w5 ⟨rfl, hn5⟩
  have hb5 := hn5.heap HQ.out.1
  have hn6 := HQ.out.2.1.trans hn5
  have c8 := cell_of_blk hb5 8
  have f8 := free_of_blk hb5 8
  have s8 := set_of_blk hb5 8 (sv (strOf id [] 0 look))
  simp only [List.getElem?_toArray, List.getElem?_cons_zero, List.getElem?_cons_succ, List.setIfInBounds_toArray, List.set_cons_succ, List.set_cons_zero] at c8 s8
  have HS := Lib.hid (And.intro s8 (And.intro hn6 (hn5.heap HQ.out.2.2)))
  clear hb5 hn6 s8 hq
  go_wp2
  go_ret
  refine ⟨w.heap.size, rfl, Nat.le_refl _, ⟨_, _, HS.out.1, blk_setOther HS.out.2.2 (by simp) _, fun j hj => by simp at hj⟩, HS.out.2.1.setCell (Nat.le_refl _) _⟩
end Go.Proofs.YtdejcdmgcckmoaaGreatDoor
namespace Go.Proofs.YtdejcdmgcckmoaaGreatDoor
open Go.RowKit Lr

theorem nl142 (s : Str) (w : World) : (nilAhead 481 142 (sv s) "SymbolString").run Tryz.prog w = .ok (some false) w := by kernel_rfl
theorem nl143 (s : Str) (w : World) : (nilAhead 481 143 (sv s) "SymbolString").run Tryz.prog w = .ok (some false) w := by kernel_rfl
theorem nl144 (w : World) : (nilAhead 481 144 (.int .i64 0) "SymbolString").run Tryz.prog w = .ok (some false) w := by kernel_rfl
set_option maxRecDepth 20000 in
set_option maxHeartbeats 2000000 in
theorem NewItem_full {w : World} {pb q : Nat} {sa : Option Addr} {sc idx pos : Nat} {id look : Str} {l : List Sy} (h0 : w.cell? ⟨pb, 0, none⟩ = some (sv id)) (h1 : w.cell? ⟨pb, 1, none⟩ = some (.pointer (some ⟨q, 0, none⟩))) (h2 : w.cell? ⟨q, 1, none⟩ = some (.slice sa l.length sc))
    (h3 : SysAt w (.slice sa l.length sc) l) (hl0 : 0 < l.length) (hne : l[0].str ≠ emptyS) (hll : l.length ≤ 20) (hpos : pos ≤ l.length) (hid : id.length ≤ 1000) (hlk : look.length ≤ 1000) (hsl : ∀ s ∈ l, s.str.length ≤ 1000) :
    Calls Tryz.prog 180 #[.int .i64 idx, .pointer (some ⟨pb, 0, none⟩), .int .i64 pos, sv look] w fun e w' => ∃ p, e = .returned (.pointer (some ⟨p, 0, none⟩)) ∧ w.heap.size ≤ p ∧ ItemBlk w' p idx (.pointer (some ⟨pb, 0, none⟩)) id (l.map Sy.str) pos look ∧ New w w' := by
  obtain ⟨b, o, e, d1⟩ := h3.elem hl0
  cases e
  rw [Nat.add_zero] at d1
  obtain ⟨sy, hsy⟩ : ∃ sy, l[0] = sy := ⟨_, rfl⟩
  rw [hsy] at d1 hne
  have lpb := lt_of_cell h0
  have lq := lt_of_cell h2
  have lb := lt_of_cell d1
  have hmk := make_one T24 rfl l.length (by omega) (by omega)
  have hed : (sy.str == [101, 109, 112, 116, 121]) = false := beq_eq_false_iff_ne.2 hne
  have H3 := Lib.hid (And.intro h3 hsl)
  have hgt : decide (l.length < pos) = false := decide_eq_false (by omega)
  have hlz : (0 : Int) < (l.length : Int) := by omega
  have hm1 := met142
  have hm2 := met143
  clear h3 hsl hsy
  cases sy with
  | em => exact absurd rfl hne
  | _ s0 =>
    clear hne
    simp only [Sy.val, Sy.str] at d1 hed
    go_enter Tryz.func180, Tryz.ntmps180
    go_wp2_with (first | (go_at_call 302; refine (SymStr_nt _ _).mono ?_; rintro e w' ⟨rfl, rfl⟩) | (go_at_call 305; refine (SymStr_tk _ _).mono ?_; rintro e w' ⟨rfl, rfl⟩))
    have q0 := New.heap ((New.refl (w.alloc (.cells #[.int .i64 idx, .pointer (some ⟨pb, 0, none⟩), sv id, .slice (some ⟨w.heap.size + 1, 0, none⟩) l.length l.length, .int .i64 pos, sv [], sv look, .int .i64 l.length, sv []] 99))).alloc (.cells (Array.replicate l.length (.string ByteArray.empty)) 9)) (heap_alloc_new w _)
    have q1 := heap_alloc_new (w.alloc (.cells #[.int .i64 idx, .pointer (some ⟨pb, 0, none⟩), sv id, .slice (some ⟨w.heap.size + 1, 0, none⟩) l.length l.length, .int .i64 pos, sv [], sv look, .int .i64 l.length, sv []] 99)) (.cells (Array.replicate l.length (.string ByteArray.empty)) 9)
    have q2 : New w ((w.alloc (.cells #[.int .i64 idx, .pointer (some ⟨pb, 0, none⟩), sv id, .slice (some ⟨w.heap.size + 1, 0, none⟩) l.length l.length, .int .i64 pos, sv [], sv look, .int .i64 l.length, sv []] 99)).alloc (.cells (Array.replicate l.length (.string ByteArray.empty)) 9)) := ((New.refl w).alloc _).alloc _
    rw [show (w.alloc (.cells #[.int .i64 idx, .pointer (some ⟨pb, 0, none⟩), sv id, .slice (some ⟨w.heap.size + 1, 0, none⟩) l.length l.length, .int .i64 pos, sv [], sv look, .int .i64 l.length, sv []] 99)).heap.size = w.heap.size + 1 by simp] at q1
    generalize (w.alloc (.cells #[.int .i64 idx, .pointer (some ⟨pb, 0, none⟩), sv id, .slice (some ⟨w.heap.size + 1, 0, none⟩) l.length l.length, .int .i64 pos, sv [], sv look, .int .i64 l.length, sv []] 99)).alloc (.cells (Array.replicate l.length (.string ByteArray.empty)) 9) = W at *
    have HQ := Lib.hid (And.intro q0 (And.intro q1 q2))
    clear q0 q1 q2 h0 h1 h2 d1 hmk hed hgt hm1 hm2
    go_loopg [92] l.length (fun gk u92 wr => ∃ (k : Nat) (arr : Array Value), k ≤ l.length ∧ gk = l.length - k ∧ u92 = .int .i64 k ∧ arr.size = l.length ∧
      wr.heap[w.heap.size]? = some (.cells #[.int .i64 idx, .pointer (some ⟨pb, 0, none⟩), sv id, .slice (some ⟨w.heap.size + 1, 0, none⟩) l.length l.length, .int .i64 pos, sv [], sv look, .int .i64 l.length, sv []] 99 (0, 0)) ∧
      wr.heap[w.heap.size + 1]? = some (.cells arr 9 (0, 0)) ∧ Hid (∀ j, (hj : j < k) → (hj2 : j < l.length) → arr[j]? = some (sv l[j].str)) ∧ New w wr)
    case atStart => exact ⟨0, _, Nat.zero_le _, rfl, rfl, by simp, HQ.out.1, HQ.out.2.1, Lib.hid (fun j hj => by omega), HQ.out.2.2⟩
    case round =>
      clear HQ
      obtain ⟨k, arr, hk, rfl, rfl, harr, hp, hrb, hj, hn⟩ := hrel
      by_cases hlt : k < l.length
      · obtain ⟨b1, o1, e, d2⟩ := (H3.out.1.new hn).elem hlt
        cases e
        have c3 := cell_of_blk hp 3
        simp only [List.getElem?_toArray, List.getElem?_cons_zero, List.getElem?_cons_succ] at c3
        obtain ⟨u0, c2⟩ : ∃ u, wr.cell? ⟨w.heap.size + 1, k, none⟩ = some u := ⟨arr[k], by rw [cell_of_blk hrb]; simp [harr, hlt]⟩
        have f2 := free_of_blk hrb k
        have hs2 := set_of_blk hrb k (sv l[k].str)
        have lp := lt_of_block hp
        have hsp : (wr.setCell ⟨w.heap.size + 1, k, none⟩ (sv l[k].str)).heap[w.heap.size]? = wr.heap[w.heap.size]? := by
          simp [World.setCell, Array.getElem?_modify]
        have HS := Lib.hid (And.intro hs2 (And.intro (hsp.trans hp) (And.intro hj.out harr)))
        have hb0 : (0 : Int) ≤ (k : Int) := by omega
        have hb1 : (k : Int) < (l.length : Int) := by omega
        obtain ⟨sy, hsy⟩ : ∃ sy, l[k] = sy := ⟨_, rfl⟩
        rw [hsy] at d2
        have HSY := Lib.hid hsy
        clear hs2 hsp hp hrb hj harr hsy
        cases sy with
        | _ =>
          simp only [Sy.val] at d2
          have hm1 := met142
          have hm2 := met143
          have hm3 := met144
          have hl1 := nl142
          have hl2 := nl143
          have hl3 := nl144
          go_wp2
          go_region_held3 (fun w' => w'.cell? ⟨w.heap.size, 3, none⟩ = some (.slice (some ⟨w.heap.size + 1, 0, none⟩) l.length l.length)) (first | exact c3 | go_keep) (first | (go_at_call 302; refine (SymStr_nt _ _).mono ?_; rintro e w' ⟨rfl, rfl⟩) | (go_at_call 305; refine (SymStr_tk _ _).mono ?_; rintro e w' ⟨rfl, rfl⟩) | (go_at_call 308; refine (SymStr_em _ _).mono ?_; rintro e w' ⟨rfl, rfl⟩))
          all_goals
            have hs1 := HS.out.1
            have hs2 := HS.out.2.1
            simp only [HSY.out, Sy.str] at hs1 hs2
            have HS3 := Lib.hid (And.intro hs1 hs2)
            clear hs1 hs2 c3 c2 f2 hb0 hb1
            go_wp2
            go_roundg (l.length - (k + 1))
            case measure => omega
            case rel =>
              refine ⟨k + 1, _, by omega, rfl, by go_num, by rw [Array.size_setIfInBounds]; exact HS.out.2.2.2, HS3.out.2, HS3.out.1, Lib.hid (fun j hj1 hj2 => ?_), ?_⟩
              · by_cases e : j = k
                · subst e
                  have hsz : j < arr.size := by rw [HS.out.2.2.2]; exact hj2
                  rw [Array.getElem?_setIfInBounds]
                  simp only [if_true, hsz, HSY.out]
                  rfl
                · rw [Array.getElem?_setIfInBounds_ne (fun h => e h.symm)]
                  exact HS.out.2.2.1 j (by omega) hj2
              · first | exact (hn.drewN _).setCell (by simp) _ | exact (hn.drewN 1).setCell (by simp) _ | exact hn.setCell (by simp) _
      · have hke : k = l.length := by omega
        subst hke
        have hrow : ∀ W : World, W.heap[w.heap.size + 1]? = some (.cells arr 9 (0, 0)) → StrsAt W (.slice (some ⟨w.heap.size + 1, 0, none⟩) l.length l.length) (l.map Sy.str) := by
          intro W hW
          refine ⟨_, l.length, by simp, by simp, fun _ => ⟨w.heap.size + 1, 0, rfl, fun j hj' => ?_⟩⟩
          simp only [List.length_map] at hj'
          rw [cell_of_blk hW, Nat.zero_add, hj.out j hj' hj']
          simp [List.getD, hj']
        have c3 := cell_of_blk hp 3
        have c4 := cell_of_blk hp 4
        have c5 := cell_of_blk hp 5
        have f5 := free_of_blk hp 5
        have c7 := cell_of_blk hp 7
        simp only [List.getElem?_toArray, List.getElem?_cons_zero, List.getElem?_cons_succ] at c3 c4 c5 c7
        have lp := lt_of_block hp
        have hkey : ∀ (W5 : World), W5.heap[w.heap.size]? = some (.cells #[.int .i64 idx, .pointer (some ⟨pb, 0, none⟩), sv id, .slice (some ⟨w.heap.size + 1, 0, none⟩) l.length l.length, .int .i64 pos, sv ((l.map Sy.str).getD pos []), sv look, .int .i64 l.length, sv []] 99 (0, 0)) → W5.heap[w.heap.size + 1]? = some (.cells arr 9 (0, 0)) →
            Calls Tryz.prog 217 #[.pointer (some ⟨w.heap.size, 0, none⟩)] W5 fun e w' => e = .returned (sv (strOf id (l.map Sy.str) pos look)) ∧ New W5 w' := by
          intro W5 h1 h2
          exact getString_any (l := l.map Sy.str) (w := W5) (p := w.heap.size) (pos := pos) (by rw [List.length_map]; exact h1) (hrow W5 h2) (by simpa using hpos) (by simpa using hll) hid hlk (fun s hs => by
            obtain ⟨u, hu, rfl⟩ := List.mem_map.1 hs
            exact H3.out.2 u hu)
        have hset : ∀ W : World, W.heap = wr.heap → (W.setCell ⟨w.heap.size, 5, none⟩ (sv ((l.map Sy.str).getD pos []))).heap[w.heap.size]? = some (.cells #[.int .i64 idx, .pointer (some ⟨pb, 0, none⟩), sv id, .slice (some ⟨w.heap.size + 1, 0, none⟩) l.length l.length, .int .i64 pos, sv ((l.map Sy.str).getD pos []), sv look, .int .i64 l.length, sv []] 99 (0, 0)) ∧ (W.setCell ⟨w.heap.size, 5, none⟩ (sv ((l.map Sy.str).getD pos []))).heap[w.heap.size + 1]? = some (.cells arr 9 (0, 0)) := by
          intro W hW
          refine ⟨?_, blk_setOther (by rw [hW]; exact hrb) (by simp) _⟩
          have := set_of_blk (w := W) (by rw [hW]; exact hp) 5 (sv ((l.map Sy.str).getD pos []))
          simpa using this
        have hget : ∀ hpl : pos < l.length, (l.map Sy.str).getD pos [] = l[pos].str ∧ arr[pos]? = some (sv l[pos].str) := fun hpl => ⟨by simp [List.getD, hpl], hj.out pos hpl hpl⟩
        have hget2 : ¬ pos < l.length → (l.map Sy.str).getD pos [] = [] := fun hpl => by
          rw [List.getD_eq_getElem?_getD, List.getElem?_eq_none (by simp; omega)]; rfl
        have hfin : ∀ j, (hj' : j < (l.map Sy.str).length) → arr[j]? = some (sv (l.map Sy.str)[j]) := fun j hj' => by
          have hj2 : j < l.length := by simpa using hj'
          rw [hj.out j hj2 hj2]; simp
        have HK := Lib.hid (And.intro hkey (And.intro hset (And.intro hget (And.intro hget2 (And.intro hfin hrb)))))
        clear hkey hp hrow hj harr hset hget hget2 hfin
        by_cases hpl : pos < l.length
        · have hd : decide ((pos : Int) < (l.length : Int)) = true := decide_eq_true (by omega)
          have hd2 : decide (pos < l.length) = true := decide_eq_true hpl
          obtain ⟨g1, g2⟩ := HK.out.2.2.1 hpl
          have cr := cell_of_blk hrb pos
          rw [g2] at cr
          generalize l[pos].str = e5 at *
          have HG := Lib.hid g1
          clear hrb g1 g2
          go_wp2
          go_quiet (fail)
          go_wp2
          have hp0 : (0 : Int) ≤ (pos : Int) := by omega
          have hp1 : (pos : Int) < (l.length : Int) := by omega
          go_region
          go_wp2_with fail
          have hs5 := HK.out.2.1 (wr.drewN (nq + 1)) rfl
          rw [HG.out] at hs5
          have hn5 : New w ((wr.drewN (nq + 1)).setCell ⟨w.heap.size, 5, none⟩ (sv e5)) := (hn.drewN (nq + 1)).setCell (Nat.le_refl _) _
          have H5 := Lib.hid (And.intro hs5 hn5)
          clear hs5 hn5 c3 c4 c5 f5 c7 cr
          generalize (wr.drewN (nq + 1)).setCell ⟨w.heap.size, 5, none⟩ (sv e5) = W5 at *
          refine (HK.out.1 W5 (by rw [HG.out]; exact H5.out.1.1) H5.out.1.2).mono ?_
          rintro e w7 ⟨rfl, hn7⟩
          have hb7 := hn7.heap H5.out.1.1
          have c8 := cell_of_blk hb7 8
          have f8 := free_of_blk hb7 8
          have s8 := set_of_blk hb7 8 (sv (strOf id (l.map Sy.str) pos look))
          simp only [List.getElem?_toArray, List.getElem?_cons_zero, List.getElem?_cons_succ, List.setIfInBounds_toArray, List.set_cons_succ, List.set_cons_zero] at c8 s8
          have HS := Lib.hid (And.intro s8 (And.intro (H5.out.2.trans hn7) (hn7.heap H5.out.1.2)))
          clear hb7 s8 hn7
          go_wp2
          go_ret
          refine ⟨w.heap.size, rfl, Nat.le_refl _, ⟨_, _, ?_, blk_setOther HS.out.2.2 (by simp) _, HK.out.2.2.2.2.1⟩, HS.out.2.1.setCell (Nat.le_refl _) _⟩
          rw [List.length_map, HG.out]
          exact HS.out.1
        · have hd : decide ((pos : Int) < (l.length : Int)) = false := decide_eq_false (by omega)
          have hd2 : decide (pos < l.length) = false := decide_eq_false hpl
          have g1 := HK.out.2.2.2.1 hpl
          have HG := Lib.hid g1
          clear hrb g1
          go_wp2
          go_quiet (fail)
          go_wp2_with fail
          have hs5 := HK.out.2.1 (wr.drewN nq) rfl
          rw [HG.out] at hs5
          have hn5 : New w ((wr.drewN nq).setCell ⟨w.heap.size, 5, none⟩ (sv [])) := (hn.drewN nq).setCell (Nat.le_refl _) _
          have H5 := Lib.hid (And.intro hs5 hn5)
          clear hs5 hn5 c3 c4 c5 f5 c7
          generalize (wr.drewN nq).setCell ⟨w.heap.size, 5, none⟩ (sv []) = W5 at *
          refine (HK.out.1 W5 (by rw [HG.out]; exact H5.out.1.1) H5.out.1.2).mono ?_
          rintro e w7 ⟨rfl, hn7⟩
          have hb7 := hn7.heap H5.out.1.1
          have c8 := cell_of_blk hb7 8
          have f8 := free_of_blk hb7 8
          have s8 := set_of_blk hb7 8 (sv (strOf id (l.map Sy.str) pos look))
          simp only [List.getElem?_toArray, List.getElem?_cons_zero, List.getElem?_cons_succ, List.setIfInBounds_toArray, List.set_cons_succ, List.set_cons_zero] at c8 s8
          have HS := Lib.hid (And.intro s8 (And.intro (H5.out.2.trans hn7) (hn7.heap H5.out.1.2)))
          clear hb7 s8 hn7
          go_wp2
          go_ret
          refine ⟨w.heap.size, rfl, Nat.le_refl _, ⟨_, _, ?_, blk_setOther HS.out.2.2 (by simp) _, HK.out.2.2.2.2.1⟩, HS.out.2.1.setCell (Nat.le_refl _) _⟩
          rw [List.length_map, HG.out]
          exact HS.out.1
end Go.Proofs.YtdejcdmgcckmoaaGreatDoor
namespace Go.Proofs.YtdejcdmgcckmoaaGreatDoor
open Go.RowKit Lr

section
variable {P : Program} (w : World)
/-- An append onto a row of the call's own, with what it leaves of every old cell but those behind the row's elements. -/
theorem run_append_keep (base : Nat) (t ty e : TypeId) (i : TypeInfo) (z : Value) (size bytes : Nat) (ht : P.underlying t = some (.slice e)) (hi : P.info? e = some i) (hz : i.zero = some z)
    (hsize : i.size = size) (hby : i.bytes = bytes) (hzs : z.cells.size = size)
    (v : Value) (n : Nat) (xs : List Value) (hown : w.ownsRow base e size v n xs)
    (a : Addr) (m c : Nat) (news : List Value) (hl : news.length = m * size) (hnews : ∀ j u, news[j]? = some u → w.cell? (a.add j) = some u) (h1 : ∀ u ∈ news, u.oneCell' = true)
    (h63 : n + m ≤ maxLen) (hbytes : (n + m) * bytes ≤ 140737488355328) (hbase : base ≤ w.heap.size) :
    ∃ v' w', (Builtin.append_ #[t, t] ty #[v, .slice (some a) m c]).run P w = .ok v' w' ∧ w'.ownsRow base e size v' (n + m) (xs ++ news) ∧ w.grownBy w' v.ownBlock ∧
      (v'.ownBlock = v.ownBlock ∨ v'.ownBlock = some w.heap.size) ∧ (∀ g j, g < w.heap.size → (v.ownBlock = some g → j < n * size) → w'.cell? ⟨g, j, none⟩ = w.cell? ⟨g, j, none⟩) := by
  subst hsize
  subst hby
  have hsmall : n + m ≤ 9223372036854775807 := by simp only [maxLen] at h63; omega
  have hlen : (xs ++ news).length = (n + m) * i.size := by rw [List.length_append, hown.1, hl, Nat.add_mul]
  have grown : ∀ (old : Nat), old < n + m → ∀ (row : Option Nat),
      (w.drew.alloc (.cells (xs.toArray ++ news.toArray ++ Builtin.zeroCells z.cells (grownCap w (n + m) old e - (n + m))) e)).ownsRow base e i.size
        (.slice (some ⟨w.heap.size, 0, none⟩) (n + m) (grownCap w (n + m) old e)) (n + m) (xs ++ news) ∧
      w.grownBy (w.drew.alloc (.cells (xs.toArray ++ news.toArray ++ Builtin.zeroCells z.cells (grownCap w (n + m) old e - (n + m))) e)) row := by
    intro old ho row
    have hge := grownCap_ge w (n + m) old e
    have hcm : grownCap w (n + m) old e ≤ maxLen := grownCap_le_maxLen w (n + m) old e h63
    refine ⟨⟨hlen, .inr ⟨w.heap.size, _, _, rfl, hbase, heap_alloc_new w.drew _, hge, hcm, ?_, ?_⟩⟩, ⟨rfl, rfl, rfl, by simp, fun k hk _ => heap_alloc_old w.drew _ hk⟩⟩
    · simp only [Array.size_append, List.size_toArray, size_zeroCells, hzs, hown.1, hl, ← Nat.add_mul]
      congr 1
      omega
    · simp only [Array.toList_append, List.append_assoc]
      rw [← List.append_assoc, ← hlen]
      exact List.take_left
  have keep : ∀ (o : Obj) (g j : Nat), g < w.heap.size → (w.drew.alloc o).cell? ⟨g, j, none⟩ = w.cell? ⟨g, j, none⟩ := by
    intro o g j hg
    have hb : (w.drew.alloc o).heap[g]? = w.heap[g]? := heap_alloc_old w.drew o hg
    unfold World.cell?
    rw [hb]
  rcases hown.2 with ⟨rfl, rfl⟩ | ⟨g, cap, cur, rfl, hbg, hg, hnc, hcm, hcs, htake⟩
  · have hx : xs = [] := List.eq_nil_of_length_eq_zero (by simpa using hown.1)
    subst hx
    by_cases hm : m = 0
    · subst hm
      have hn : news = [] := List.eq_nil_of_length_eq_zero (by simpa using hl)
      subst hn
      refine ⟨.slice none 0 0, w, ?_, World.ownsRow_nil w base e i.size, ⟨rfl, rfl, rfl, Nat.le_refl _, fun _ _ _ => rfl⟩, Or.inl rfl, fun _ _ _ _ => rfl⟩
      simp [Builtin.append_, run_underlying ht, sizeOf, typeInfo, hi, Builtin.lenOf, Builtin.firstCells, loadCells, loadCellsFrom]
    · have hr := run_append_nil (P := P) w t ty e i z ht hi hz a m c news hl hnews (by omega) (by omega) (by have hb := hbytes; simp only [Nat.zero_add] at hb; omega)
      have hgr := grown 0 (by omega) (Value.ownBlock (.slice none 0 0))
      simp only [Nat.zero_add, List.nil_append, Array.empty_append] at hgr ⊢
      exact ⟨_, _, hr, hgr.1, hgr.2, Or.inr rfl, fun g j hg _ => keep _ g j hg⟩
  · by_cases hroom : n + m ≤ cap
    · have hfit : n * i.size + news.length ≤ cur.size := by rw [hl, hcs, ← Nat.add_mul]; exact Nat.mul_le_mul_right _ hroom
      have hr := run_append_room (P := P) w t ty e i ht hi g n cap cur hg a m c news hl hnews h1 hroom hfit
      refine ⟨_, _, hr, ⟨hlen, .inr ⟨g, cap, _, rfl, hbg, setRow_heap w g cur _ e _ hg, hroom, hcm, ?_, ?_⟩⟩, ⟨rfl, rfl, rfl, by simp, fun k _ hk => setRow_other w g k _ (fun e => hk (by simp [Value.ownBlock, e]))⟩, Or.inl rfl, fun g' j hg' hj => ?_⟩
      · simp only [List.size_toArray, List.length_append, List.length_take, List.length_drop, Array.length_toList]
        omega
      · rw [htake, ← hlen]
        exact List.take_left
      · by_cases hgg : g' = g
        · subst hgg
          have hj' := hj rfl
          have h2 := setRow_heap w g' cur (cur.toList.take (n * i.size) ++ news ++ cur.toList.drop (n * i.size + news.length)).toArray e _ hg
          simp only [World.cell?, h2, hg]
          have hjc : j < cur.size := by omega
          simp only [List.getElem?_toArray]
          rw [List.append_assoc, List.getElem?_append_left (by simp; omega), List.getElem?_take_of_lt hj']
          simp
        · have h2 := setRow_other w g g' (cur.toList.take (n * i.size) ++ news ++ cur.toList.drop (n * i.size + news.length)).toArray hgg
          unfold World.cell?
          rw [h2]
    · have holds : ∀ j u, xs[j]? = some u → w.cell? ((⟨g, 0, none⟩ : Addr).add j) = some u := hown.cells (g := g) rfl
      have hr := run_append_grow (P := P) w t ty e i z ht hi hz ⟨g, 0, none⟩ n cap xs hown.1 holds a m c news hl hnews (by omega) (by omega) (growslice_fits (by omega) hbytes)
      have hgr := grown cap (by omega) (Value.ownBlock (.slice (some ⟨g, 0, none⟩) n cap))
      exact ⟨_, _, hr, hgr.1, hgr.2, Or.inr rfl, fun g j hg _ => keep _ g j hg⟩
end
/-- `append(s, x)` of one element, with what it leaves of old cells. -/
theorem wpList_pushK {P : Program} {ops : Array Oper} {rest : List Oper} {o : Oper} {a : Act} {Q : Exit → Act → World → Prop} (W : World) (hgd : o.guard = none) (s x : Operand) (t e : TypeId)
    (ho : o.op = .call { callee := .builtin .append, args := #[s, x], argTypes := #[t, t] }) {size bytes : Nat} {z : Value} (T : SliceTy P t e size bytes z)
    (B : Nat) (v : Value) (n : Nat) (xs : List Value) (hs : a.eval s = v) (hown : W.ownsRow B e size v n xs) (news : List Value) (hl : news.length = size) (h1 : news.all Value.oneCell' = true)
    (c hp : Nat) (hx : a.eval x = .slice (some ⟨hp, 0, none⟩) 1 c) (hhp : hp = W.heap.size) (hbytes : (n + 1) * bytes ≤ 140737488355328) (hlen : n + 1 ≤ 140737488355328) (hbase : B ≤ W.heap.size)
    (h : ∀ v' w', w'.ownsRow B e size v' (n + 1) (xs ++ news) → W.grownBy w' v.ownBlock → (v'.ownBlock = v.ownBlock ∨ ∃ b, v'.ownBlock = some b ∧ W.heap.size ≤ b) → (∀ g j, g < W.heap.size → (v.ownBlock = some g → j < n * size) → w'.cell? ⟨g, j, none⟩ = W.cell? ⟨g, j, none⟩) → wpList P ops Q rest (a.put o.dst v') w') :
    wpList P ops Q (o :: rest) a (W.alloc (.cells news.toArray e)) := by
  subst hhp
  obtain ⟨i, hi, hz0, hz1, hz2⟩ := info_parts T.row
  refine wpList_plain hgd fun K hK => ?_
  obtain ⟨v', w', hr, h2, h3, h4, h5⟩ := run_append_keep (P := P) (W.alloc (.cells news.toArray e)) B t o.type e i z size bytes T.und hi hz0 hz1 hz2 T.cells v n xs (hown.alloc _) ⟨W.heap.size, 0, none⟩ 1 c news (by omega) (by
    intro j u hj
    have ea : (⟨W.heap.size, 0, none⟩ : Addr).add j = ⟨W.heap.size, j, none⟩ := by unfold Addr.add; split <;> simp_all
    rw [ea, cell_of_row (W.alloc (.cells news.toArray e)) W.heap.size j news.toArray e (0, 0) (heap_alloc_new W _)]
    simpa using hj) (by simpa [List.all_eq_true] using h1) (by unfold maxLen; omega) hbytes (by simp; omega)
  unfold Oper.wp execOp
  simp only [ho, resolve, invoke, builtin, Sem.run_bind, Sem.run_pure, Result.andThen_ok, List.map_toArray, List.map_cons, List.map_nil, hs, hx, hr]
  refine hK _ _ (h v' w' h2 ((World.grownBy_alloc W _ _).trans h3) ?_ fun g j hg hj => ?_)
  · rcases h4 with h4 | h4
    · exact .inl h4
    · exact .inr ⟨_, h4, by simp⟩
  · rw [h5 g j (by simp; omega) hj]
    have hb : (W.alloc (.cells news.toArray e)).heap[g]? = W.heap[g]? := heap_alloc_old W _ hg
    unfold World.cell?
    rw [hb]
end Go.Proofs.YtdejcdmgcckmoaaGreatDoor

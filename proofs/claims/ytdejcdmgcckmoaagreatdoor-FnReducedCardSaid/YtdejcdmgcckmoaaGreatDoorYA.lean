/- Derivations, first letters, items, runs of an LR parser, the canonical collection, over plain lists. -/
namespace Lr
abbrev Str := List UInt8
abbrev Prd := Str × List Str
abbrev Gram := List Prd

def isHead (g : Gram) (s : Str) : Bool := g.any fun p => p.1 == s

theorem isHead_iff {g : Gram} {s : Str} : isHead g s = true ↔ ∃ b, (s, b) ∈ g := by
  unfold isHead
  simp only [List.any_eq_true, beq_iff_eq]
  constructor
  · rintro ⟨⟨h, b⟩, hm, rfl⟩; exact ⟨b, hm⟩
  · rintro ⟨b, hm⟩; exact ⟨(s, b), hm, rfl⟩

/-- The symbols `l` derive the terminals `x` by `n` productions. -/
inductive D (g : Gram) : Nat → List Str → List Str → Prop
  | nil : D g 0 [] []
  | term {t : Str} {n : Nat} {l x : List Str} : isHead g t = false → D g n l x → D g n (t :: l) (t :: x)
  | head {A : Str} {b l x y : List Str} {n m : Nat} : (A, b) ∈ g → D g n b x → D g m l y → D g (n + m + 1) (A :: l) (x ++ y)

/-- The symbols `l` may derive something that begins with `u` and `a`; `n`: productions done ahead of `a`, and those on the way to it. -/
inductive Pt (g : Gram) : Nat → List Str → List Str → Str → Prop
  | term {t : Str} {l : List Str} : isHead g t = false → Pt g 0 (t :: l) [] t
  | head {A a : Str} {b l u : List Str} {n : Nat} : (A, b) ∈ g → Pt g n b u a → Pt g (n + 1) (A :: l) u a
  | skipT {t a : Str} {l u : List Str} {n : Nat} : isHead g t = false → Pt g n l u a → Pt g n (t :: l) (t :: u) a
  | skipH {A a : Str} {b l x u : List Str} {n m : Nat} : (A, b) ∈ g → D g n b x → Pt g m l u a → Pt g (n + m + 1) (A :: l) (x ++ u) a

variable {g : Gram}

theorem D.term_of {n : Nat} {l x : List Str} (h : D g n l x) : ∀ t ∈ x, isHead g t = false := by
  induction h with
  | nil => intro t ht; cases ht
  | term ht _ ih => intro t h; rcases List.mem_cons.1 h with rfl | h; exact ht; exact ih t h
  | head _ _ _ ih1 ih2 => intro t h; rcases List.mem_append.1 h with h | h; exact ih1 t h; exact ih2 t h

theorem Pt.term_of {n : Nat} {l u : List Str} {a : Str} (h : Pt g n l u a) : isHead g a = false := by
  induction h with
  | term ht => exact ht
  | head _ _ ih => exact ih
  | skipT _ _ ih => exact ih
  | skipH _ _ _ ih => exact ih

theorem D.append {n m : Nat} {l l' x y : List Str} (h : D g n l x) (k : D g m l' y) : D g (n + m) (l ++ l') (x ++ y) := by
  induction h with
  | nil => simpa using k
  | term ht _ ih => exact .term ht ih
  | @head A b l x y n m' hm h1 _ _ ih2 =>
    have := D.head hm h1 ih2
    rw [List.append_assoc]
    have e : n + (m' + m) + 1 = n + m' + 1 + m := by omega
    rw [e] at this
    exact this

theorem D.split : ∀ {l l' : List Str} {n : Nat} {x : List Str}, D g n (l ++ l') x → ∃ n1 n2 x1 x2, x = x1 ++ x2 ∧ n = n1 + n2 ∧ D g n1 l x1 ∧ D g n2 l' x2
  | [], l', n, x, h => ⟨0, n, [], x, rfl, by omega, .nil, h⟩
  | X :: l, l', n, x, h => by
    cases h with
    | term ht h =>
      obtain ⟨n1, n2, x1, x2, rfl, rfl, h1, h2⟩ := D.split h
      exact ⟨n1, n2, _ :: x1, x2, rfl, rfl, .term ht h1, h2⟩
    | @head A b _ x y n m hm h0 h =>
      obtain ⟨n1, n2, x1, x2, rfl, rfl, h1, h2⟩ := D.split h
      exact ⟨n + n1 + 1, n2, x ++ x1, x2, by simp, by omega, .head hm h0 h1, h2⟩

theorem D.one {A : Str} {b x : List Str} {n : Nat} (hm : (A, b) ∈ g) (h : D g n b x) : D g (n + 1) [A] x := by
  have := D.head hm h .nil
  simpa using this

/-- A symbol's derivation ahead of a partial one. -/
theorem Pt.skip {X a : Str} {l x u : List Str} {n m : Nat} (h : D g n [X] x) (k : Pt g m l u a) : Pt g (n + m) (X :: l) (x ++ u) a := by
  cases h with
  | term ht h => cases h; simpa using Pt.skipT ht k
  | @head A b _ x y n m' hm h1 h2 =>
    cases h2
    have := Pt.skipH hm h1 k
    have e : n + 0 + 1 + m = n + m + 1 := by omega
    rw [e]; simpa using this

theorem Pt.right {n : Nat} {l l' u : List Str} {a : Str} (h : Pt g n l u a) : Pt g n (l ++ l') u a := by
  induction h with
  | term ht => exact .term ht
  | head hm h _ => exact .head hm h
  | skipT ht _ ih => exact .skipT ht ih
  | skipH hm h1 _ ih => exact .skipH hm h1 ih

/-- The first terminal of a derivation. -/
theorem D.first {n : Nat} {l x : List Str} (h : D g n l x) : ∀ {c : Str} {y : List Str}, x = c :: y → ∃ m, Pt g m l [] c := by
  induction h with
  | nil => intro c y e; cases e
  | term ht _ _ => intro c y e; cases e; exact ⟨0, .term ht⟩
  | @head A b l x y n m hm h1 h2 ih1 ih2 =>
    intro c z e
    cases x with
    | nil =>
      obtain ⟨k, hk⟩ := ih2 (c := c) (y := z) (by simpa using e)
      exact ⟨n + k + 1, by simpa using Pt.skipH hm h1 hk⟩
    | cons d x =>
      simp at e
      obtain ⟨rfl, _⟩ := e
      obtain ⟨k, hk⟩ := ih1 rfl
      exact ⟨k + 1, .head hm hk⟩

/-- The first terminal of a partial derivation. -/
theorem Pt.first {n : Nat} {l u : List Str} {a : Str} (h : Pt g n l u a) : ∀ {c : Str} {y : List Str}, u ++ [a] = c :: y → ∃ m, Pt g m l [] c := by
  induction h with
  | term ht => intro c y e; simp at e; obtain ⟨rfl, rfl⟩ := e; exact ⟨0, .term ht⟩
  | head hm h ih => intro c y e; obtain ⟨k, hk⟩ := ih e; exact ⟨k + 1, .head hm hk⟩
  | skipT ht h ih => intro c y e; simp at e; obtain ⟨rfl, rfl⟩ := e; exact ⟨0, .term ht⟩
  | @skipH A a b l x u n m hm h1 h2 ih =>
    intro c y e
    cases x with
    | nil => obtain ⟨k, hk⟩ := ih (c := c) (y := y) (by simpa using e); exact ⟨n + k + 1, by simpa using Pt.skipH hm h1 hk⟩
    | cons d x => simp at e; obtain ⟨rfl, _⟩ := e; obtain ⟨k, hk⟩ := h1.first rfl; exact ⟨k + 1, .head hm hk⟩

/-- May `c` stand first in what the symbols derive, with `b` behind them? -/
def Fst (g : Gram) (l : List Str) (b c : Str) : Prop := (∃ n, Pt g n l [] c) ∨ ((∃ n, D g n l []) ∧ c = b)

structure Itm where
  prod : Option Nat
  dot : Nat
  look : Str
  deriving DecidableEq

def start (g : Gram) : Str := match g with | [] => [] | p :: _ => p.1
def body (g : Gram) : Option Nat → List Str
  | none => [start g]
  | some n => (g[n]?.getD ([], [])).2
def Itm.rest (g : Gram) (i : Itm) : List Str := (body g i.prod).drop i.dot
def endS : Str := [36]

/-- The items that are valid for a row of symbols. -/
inductive Vld (g : Gram) : List Str → Itm → Prop
  | init : Vld g [] ⟨none, 0, endS⟩
  | close {γ : List Str} {i : Itm} {B c : Str} {b δ : List Str} {n : Nat} : Vld g γ i → i.rest g = B :: δ → g[n]? = some (B, b) → Fst g δ i.look c → Vld g γ ⟨some n, 0, c⟩
  | shift {γ : List Str} {i : Itm} {X : Str} {δ : List Str} : Vld g γ i → i.rest g = X :: δ → Vld g (γ ++ [X]) ⟨i.prod, i.dot + 1, i.look⟩

theorem Itm.rest_succ {i : Itm} {X : Str} {δ : List Str} (h : i.rest g = X :: δ) : (⟨i.prod, i.dot + 1, i.look⟩ : Itm).rest g = δ := by
  unfold Itm.rest at h ⊢
  have : (body g i.prod).drop (i.dot + 1) = ((body g i.prod).drop i.dot).drop 1 := by rw [List.drop_drop]
  simp [this, h]

theorem Itm.take_succ {i : Itm} {X : Str} {δ : List Str} (h : i.rest g = X :: δ) : (body g i.prod).take (i.dot + 1) = (body g i.prod).take i.dot ++ [X] := by
  unfold Itm.rest at h
  have hl : i.dot < (body g i.prod).length := by
    apply Nat.lt_of_not_le
    intro hle
    rw [List.drop_of_length_le hle] at h
    cases h
  rw [List.take_succ_eq_append_getElem hl]
  congr 2
  have := List.drop_eq_getElem_cons hl
  rw [h] at this
  exact (List.cons.inj this).1.symm

theorem Vld.tail {γ : List Str} {i : Itm} (h : Vld g γ i) : ∃ α, γ = α ++ (body g i.prod).take i.dot := by
  induction h with
  | init => exact ⟨[], by simp⟩
  | @close γ _ _ _ _ _ _ _ _ _ _ => exact ⟨γ, by simp⟩
  | @shift γ i X δ _ hr ih =>
    obtain ⟨α, hα⟩ := ih
    exact ⟨α, by simp only []; rw [Itm.take_succ hr, ← List.append_assoc, ← hα]⟩

theorem Vld.rest_le {γ : List Str} {i : Itm} (h : Vld g γ i) : i.dot ≤ (body g i.prod).length := by
  induction h with
  | init => simp
  | close => simp
  | @shift γ i X δ _ hr ih =>
    simp only []
    unfold Itm.rest at hr
    apply Nat.lt_of_not_le
    intro hle
    rw [List.drop_of_length_le hle] at hr
    cases hr

theorem Vld.zero {γ : List Str} {i : Itm} (h : Vld g γ i) : i.prod = none → γ = [start g].take i.dot ∧ i.look = endS := by
  induction h with
  | init => intro _; simp
  | close => intro h; cases h
  | @shift γ i X δ _ hr ih =>
    intro hp
    simp only [] at hp
    obtain ⟨h1, h2⟩ := ih hp
    refine ⟨?_, h2⟩
    have := Itm.take_succ hr
    rw [hp] at this
    simp only [body] at this
    simp only []
    rw [this, ← h1]

theorem Vld.lt {γ : List Str} {i : Itm} (h : Vld g γ i) : ∀ {n : Nat}, i.prod = some n → n < g.length := by
  induction h with
  | init => intro n h; cases h
  | close _ _ hn _ _ => intro m h; cases h; exact (List.getElem?_eq_some_iff.1 hn).1
  | shift _ _ ih => intro n h; exact ih h

/-- Every nonterminal has a word. -/
def Productive (g : Gram) : Prop := ∀ A, isHead g A = true → ∃ n x, D g n [A] x

theorem Productive.list (hp : Productive g) : ∀ l : List Str, ∃ n x, D g n l x
  | [] => ⟨0, [], .nil⟩
  | X :: l => by
    obtain ⟨n, x, h⟩ := Productive.list hp l
    cases hX : isHead g X with
    | false => exact ⟨n, X :: x, .term hX h⟩
    | true =>
      obtain ⟨m, y, k⟩ := hp X hX
      exact ⟨m + n, y ++ x, by simpa using k.append h⟩

theorem Productive.fst (hp : Productive g) (l : List Str) (b : Str) : ∃ c, Fst g l b c := by
  obtain ⟨n, x, h⟩ := hp.list l
  cases x with
  | nil => exact ⟨b, .inr ⟨⟨n, h⟩, rfl⟩⟩
  | cons c y => obtain ⟨m, hm⟩ := h.first rfl; exact ⟨c, .inl ⟨m, hm⟩⟩

/-! ### The context of an item: what its rest makes goes on to the start's -/
theorem Vld.ctx {γ : List Str} {i : Itm} (h : Vld g γ i) : ∀ {u : List Str} {k : Nat}, D g k γ u →
    (∀ v a n, Pt g n (i.rest g) v a → ∃ n', Pt g n' [start g] (u ++ v) a) ∧
    (∀ v n, D g n (i.rest g) v → (i.look = endS ∧ ∃ n', D g n' [start g] (u ++ v)) ∨ (∃ n', Pt g n' [start g] (u ++ v) i.look)) := by
  induction h with
  | init =>
    intro u k hk
    cases hk
    exact ⟨fun v a n h => ⟨n, h⟩, fun v n h => .inl ⟨rfl, n, h⟩⟩
  | @close γ i B c b δ n0 _ hr hn hf ih =>
    intro u k hk
    obtain ⟨ihA, ihB⟩ := ih hk
    have hmem : (B, b) ∈ g := List.mem_of_getElem? hn
    have hrest : (⟨some n0, 0, c⟩ : Itm).rest g = b := by simp [Itm.rest, body, hn]
    rw [hrest]
    refine ⟨fun v a n h => ihA v a (n + 1) (by rw [hr]; exact .head hmem h), fun v n h => ?_⟩
    rcases hf with ⟨m, hm⟩ | ⟨⟨m, hm⟩, rfl⟩
    · obtain ⟨n', hn'⟩ := ihA v c (n + m + 1) (by rw [hr]; have := Pt.skipH hmem h hm; simpa using this)
      exact .inr ⟨n', hn'⟩
    · have := ihB v (n + m + 1) (by rw [hr]; have := D.head hmem h hm; simpa using this)
      exact this
  | @shift γ i X δ _ hr ih =>
    intro u k hk
    obtain ⟨n1, n2, x1, x2, rfl, rfl, h1, h2⟩ := hk.split
    obtain ⟨ihA, ihB⟩ := ih h1
    rw [Itm.rest_succ hr]
    refine ⟨fun v a n h => ?_, fun v n h => ?_⟩
    · obtain ⟨n', hn'⟩ := ihA (x2 ++ v) a (n2 + n) (by rw [hr]; exact Pt.skip h2 h)
      exact ⟨n', by simpa using hn'⟩
    · have := ihB (x2 ++ v) (n2 + n) (by rw [hr]; have := h2.append h; simpa using this)
      simpa using this

/-! ### Runs of the parser, by rows of symbols -/
/-- From a row of symbols and what is to be read to another such pair, with the productions that were reduced. -/
inductive Run (g : Gram) : List Str → List Str → List Nat → List Str → List Str → Prop
  | refl {γ r : List Str} : Run g γ r [] γ r
  | shift {γ γ' r r' : List Str} {a : Str} {ps : List Nat} {i : Itm} {δ : List Str} : Vld g γ i → i.rest g = a :: δ → isHead g a = false → Run g (γ ++ [a]) r ps γ' r' → Run g γ (a :: r) ps γ' r'
  | reduce {α b γ' r r' : List Str} {A a : Str} {p : Nat} {ps : List Nat} : g[p]? = some (A, b) → Vld g (α ++ b) ⟨some p, b.length, a⟩ → Run g (α ++ [A]) (a :: r) ps γ' r' → Run g (α ++ b) (a :: r) (p :: ps) γ' r'

theorem Run.trans {γ γ' γ'' r r' r'' : List Str} {ps qs : List Nat} (h : Run g γ r ps γ' r') (k : Run g γ' r' qs γ'' r'') : Run g γ r (ps ++ qs) γ'' r'' := by
  induction h with
  | refl => exact k
  | shift hi hr ha _ ih => exact .shift hi hr ha (ih k)
  | reduce hp hv _ ih => exact .reduce hp hv (ih k)

theorem Vld.skip {γ : List Str} {i : Itm} (h : Vld g γ i) : ∀ {l δ : List Str}, i.rest g = l ++ δ → Vld g (γ ++ l) ⟨i.prod, i.dot + l.length, i.look⟩ := by
  intro l
  induction l generalizing γ i with
  | nil => intro δ _; simpa using h
  | cons X l ih =>
    intro δ hr
    have h1 := Vld.shift h hr
    have h2 := ih h1 (δ := δ) (Itm.rest_succ hr)
    simpa [Nat.add_assoc, Nat.add_comm 1] using h2

theorem rest_append {i : Itm} {l δ : List Str} (h : i.rest g = l ++ δ) : (⟨i.prod, i.dot + l.length, i.look⟩ : Itm).rest g = δ := by
  unfold Itm.rest at h ⊢
  simp only []
  rw [← List.drop_drop, h]
  simp

/-- What the symbols behind the dot derive, the parser reads. -/
theorem Run.sim {n : Nat} {l x : List Str} (h : D g n l x) : ∀ {γ δ : List Str} {i : Itm} {c : Str} {r : List Str}, Vld g γ i → i.rest g = l ++ δ → Fst g δ i.look c →
    ∃ ps : List Nat, ps.length = n ∧ Run g γ (x ++ c :: r) ps (γ ++ l) (c :: r) := by
  induction h with
  | nil => intro γ δ i c r _ _ _; exact ⟨[], rfl, by simpa using Run.refl⟩
  | @term t n l x ht h ih =>
    intro γ _ i c r hi hr hf
    obtain ⟨ps, hps, hrun⟩ := ih (γ := γ ++ [t]) (i := ⟨i.prod, i.dot + 1, i.look⟩) (c := c) (r := r) (Vld.shift hi hr) (Itm.rest_succ hr) hf
    exact ⟨ps, hps, by have := Run.shift hi hr ht hrun; simpa using this⟩
  | @head A b l x y n m hm h1 h2 ih1 ih2 =>
    intro γ δ i c r hi hr hf
    obtain ⟨p, hp⟩ := List.getElem?_of_mem hm
    obtain ⟨c', r', e, hf'⟩ : ∃ c' r', y ++ c :: r = c' :: r' ∧ Fst g (l ++ δ) i.look c' := by
      cases y with
      | nil =>
        refine ⟨c, r, rfl, ?_⟩
        rcases hf with ⟨k, hk⟩ | ⟨⟨k, hk⟩, rfl⟩
        · left
          clear ih1 ih2 hr
          have : ∀ {m : Nat} {l x : List Str}, D g m l x → x = [] → ∃ k, Pt g k (l ++ δ) [] c := by
            intro m l x h
            induction h with
            | nil => intro _; exact ⟨k, hk⟩
            | term => intro e; cases e
            | @head A b l x y n m hm h1 h2 _ ih =>
              intro e
              obtain ⟨rfl, rfl⟩ := List.append_eq_nil_iff.1 e
              obtain ⟨k', hk'⟩ := ih rfl
              exact ⟨_, by simpa using Pt.skipH hm h1 hk'⟩
          exact this h2 rfl
        · exact .inr ⟨⟨_, by simpa using h2.append hk⟩, rfl⟩
      | cons d y => obtain ⟨k, hk⟩ := h2.first rfl; exact ⟨d, y ++ c :: r, rfl, .inl ⟨k, hk.right⟩⟩
    have hv : Vld g γ ⟨some p, 0, c'⟩ := Vld.close hi hr hp hf'
    obtain ⟨ps, hps, hrun1⟩ := ih1 (γ := γ) (i := ⟨some p, 0, c'⟩) (δ := []) (c := c') (r := r') hv (by simp [Itm.rest, body, hp]) (.inr ⟨⟨0, .nil⟩, rfl⟩)
    have hend : Vld g (γ ++ b) ⟨some p, b.length, c'⟩ := by
      have := Vld.skip hv (l := b) (δ := []) (by simp [Itm.rest, body, hp])
      simpa using this
    obtain ⟨qs, hqs, hrun2⟩ := ih2 (γ := γ ++ [A]) (i := ⟨i.prod, i.dot + 1, i.look⟩) (c := c) (r := r) (Vld.shift hi hr) (Itm.rest_succ hr) hf
    refine ⟨ps ++ p :: qs, by simp [hps, hqs]; omega, ?_⟩
    have hred : Run g (γ ++ b) (c' :: r') (p :: qs) (γ ++ A :: l) (c :: r) := by
      refine Run.reduce hp hend ?_
      rw [← e]
      simpa using hrun2
    have := hrun1.trans hred
    rw [List.append_assoc, e]
    exact this

/-- What the symbols behind the dot may begin with, the parser reads, and can then shift. -/
theorem Run.simP (hp : Productive g) {n : Nat} {l u : List Str} {a : Str} (h : Pt g n l u a) : ∀ {γ δ : List Str} {i : Itm} {r : List Str}, Vld g γ i → i.rest g = l ++ δ →
    ∃ (ps : List Nat) (γ' : List Str) (i' : Itm) (δ' : List Str), ps.length ≤ n ∧ Run g γ (u ++ a :: r) ps γ' (a :: r) ∧ Vld g γ' i' ∧ i'.rest g = a :: δ' := by
  induction h with
  | @term t l ht => intro γ δ i r hi hr; exact ⟨[], γ, i, l ++ δ, by simp, Run.refl, hi, hr⟩
  | @head A a b l u n hm h ih =>
    intro γ δ i r hi hr
    obtain ⟨p, hpp⟩ := List.getElem?_of_mem hm
    obtain ⟨c, hc⟩ := hp.fst (l ++ δ) i.look
    have hv : Vld g γ ⟨some p, 0, c⟩ := Vld.close hi hr hpp hc
    obtain ⟨ps, γ', i', δ', h1, h2, h3, h4⟩ := ih (r := r) hv (δ := []) (by simp [Itm.rest, body, hpp])
    exact ⟨ps, γ', i', δ', by omega, h2, h3, h4⟩
  | @skipT t a l u n ht h ih =>
    intro γ δ i r hi hr
    obtain ⟨ps, γ', i', δ', h1, h2, h3, h4⟩ := ih (r := r) (Vld.shift hi hr) (Itm.rest_succ hr)
    exact ⟨ps, γ', i', δ', h1, Run.shift hi hr ht h2, h3, h4⟩
  | @skipH A a b l x u n m hm h1 h2 ih =>
    intro γ δ i r hi hr
    obtain ⟨p, hpp⟩ := List.getElem?_of_mem hm
    obtain ⟨c', r', e, hf'⟩ : ∃ c' r', u ++ a :: r = c' :: r' ∧ Fst g (l ++ δ) i.look c' := by
      cases u with
      | nil => obtain ⟨k, hk⟩ := h2.first (c := a) (y := []) rfl; exact ⟨a, r, rfl, .inl ⟨k, hk.right⟩⟩
      | cons d u => obtain ⟨k, hk⟩ := h2.first (c := d) (y := u ++ [a]) rfl; exact ⟨d, u ++ a :: r, rfl, .inl ⟨k, hk.right⟩⟩
    have hv : Vld g γ ⟨some p, 0, c'⟩ := Vld.close hi hr hpp hf'
    obtain ⟨ps, hps, hrun1⟩ := Run.sim h1 (r := r') hv (δ := []) (c := c') (by simp [Itm.rest, body, hpp]) (.inr ⟨⟨0, .nil⟩, rfl⟩)
    have hend : Vld g (γ ++ b) ⟨some p, b.length, c'⟩ := by
      have := Vld.skip hv (l := b) (δ := []) (by simp [Itm.rest, body, hpp])
      simpa using this
    obtain ⟨qs, γ', i', δ', h3, h4, h5, h6⟩ := ih (γ := γ ++ [A]) (r := r) (Vld.shift hi hr) (Itm.rest_succ hr)
    refine ⟨ps ++ p :: qs, γ', i', δ', by simp [hps]; omega, ?_, h5, h6⟩
    have hred : Run g (γ ++ b) (c' :: r') (p :: qs) γ' (a :: r) := Run.reduce hpp hend (by rw [← e]; exact h4)
    have := hrun1.trans hred
    rw [List.append_assoc, e]
    exact this

/-- What the parser has read its row of symbols derives, by as many productions as it reduced. -/
theorem Run.sound {γ r γ' r' : List Str} {ps : List Nat} (h : Run g γ r ps γ' r') : ∀ {u : List Str} {n : Nat}, D g n γ u → ∃ v, r = v ++ r' ∧ D g (n + ps.length) γ' (u ++ v) := by
  induction h with
  | refl => intro u n h; exact ⟨[], rfl, by simpa using h⟩
  | @shift γ γ' r r' a ps i δ hi hr ha _ ih =>
    intro u n h
    obtain ⟨v, e, hd⟩ := ih (h.append (D.term ha .nil))
    exact ⟨a :: v, by rw [e]; rfl, by simpa using hd⟩
  | @reduce α b γ' r r' A a p ps hp hv _ ih =>
    intro u n h
    obtain ⟨n1, n2, x1, x2, rfl, rfl, h1, h2⟩ := h.split
    have := h1.append (D.one (List.mem_of_getElem? hp) h2)
    obtain ⟨v, e, hd⟩ := ih this
    refine ⟨v, e, ?_⟩
    have e2 : n1 + n2 + (p :: ps).length = n1 + (n2 + 1) + ps.length := by simp; omega
    rw [e2]; exact hd
end Lr
namespace Lr
variable {g : Gram}

theorem nodup_le : ∀ {V L : List Str}, V.Nodup → (∀ x ∈ V, x ∈ L) → V.length ≤ L.length
  | [], L, _, _ => Nat.zero_le _
  | x :: V, L, h, hs => by
    have hx := hs x (List.mem_cons_self ..)
    have h2 := List.nodup_cons.1 h
    have := nodup_le (V := V) (L := L.erase x) h2.2 (fun y hy => (List.mem_erase_of_ne (fun e => h2.1 (by rw [← e]; exact hy))).2 (hs y (List.mem_cons_of_mem _ hy)))
    have hl := List.length_erase_of_mem hx
    have : 0 < L.length := List.length_pos_of_mem hx
    simp only [List.length_cons]
    omega

structure Lite (g : Gram) : Prop where
  len : g.length ≤ 12
  body : ∀ p ∈ g, p.2.length ≤ 4
  eps : ∀ A n, D g n [A] [] → ∃ n', n' ≤ 10 ∧ D g n' [A] []

theorem Lite.epsList (hL : Lite g) : ∀ {l : List Str} {n : Nat}, D g n l [] → ∃ n', n' ≤ 10 * l.length ∧ D g n' l []
  | [], _, _ => ⟨0, by simp, .nil⟩
  | X :: l, n, h => by
    obtain ⟨n1, n2, x1, x2, e, _, h1, h2⟩ := D.split (l := [X]) (l' := l) h
    obtain ⟨rfl, rfl⟩ := List.append_eq_nil_iff.1 e.symm
    obtain ⟨k1, hk1, hd1⟩ := hL.eps X n1 h1
    obtain ⟨k2, hk2, hd2⟩ := hL.epsList h2
    exact ⟨k1 + k2, by simp; omega, hd1.append hd2⟩

/-- Small derivations of every nonempty row of fewer than m terminals. -/
def SmallTo (g : Gram) (m : Nat) : Prop := ∀ A x n, x ≠ [] → x.length < m → D g n [A] x → ∃ n', n' + 372 ≤ 744 * x.length ∧ D g n' [A] x

set_option maxRecDepth 20000 in
theorem forest (hL : Lite g) {m : Nat} (hS : SmallTo g m) {n : Nat} {l x : List Str} (h : D g n l x) : x.length ≤ m →
    (x.length = m ∧ x ≠ [] ∧ ∃ l1 A l2 k1 k k2, l = l1 ++ A :: l2 ∧ isHead g A = true ∧ n = k1 + k + k2 ∧ D g k1 l1 [] ∧ D g k [A] x ∧ D g k2 l2 []) ∨
    (∃ n' h e t y, D g n' l x ∧ n' + 372 * h ≤ 10 * e + 744 * y ∧ e + h + t = l.length ∧ x.length = y + t ∧ (h = 1 → y < m) ∧ (h = 0 → y = 0)) := by
  induction h with
  | nil => intro _; exact .inr ⟨0, 0, 0, 0, 0, .nil, by omega, by simp, by simp, by omega, by omega⟩
  | @term t n l x ht _ ih =>
    intro hm
    simp at hm
    rcases ih (by omega) with ⟨e, _⟩ | ⟨n', h, e, t', y, h1, h2, h3, h4, h5, h6⟩
    · omega
    · exact .inr ⟨n', h, e, t' + 1, y, .term ht h1, h2, by simp; omega, by simp; omega, h5, h6⟩
  | @head A b l x y n k hmem h1 h2 _ ih2 =>
    intro hm
    simp at hm
    have hA : isHead g A = true := isHead_iff.2 ⟨b, hmem⟩
    have hone : D g (n + 1) [A] x := D.one hmem h1
    cases x with
    | nil =>
      obtain ⟨n0, hn0, hd0⟩ := hL.eps A _ hone
      rcases ih2 (by simpa using hm) with ⟨e1, e2, l1, B, l2, k1, k', k2, rfl, hB, rfl, g1, g2, g3⟩ | ⟨n', h, e, t', y', g1, g2, g3, g4, g5, g6⟩
      · refine .inl ⟨by simpa using e1, by simpa using e2, A :: l1, B, l2, n + 1 + k1, k', k2, rfl, hB, by omega, ?_, by simpa using g2, g3⟩
        simpa using hone.append g1
      · exact .inr ⟨n0 + n', h, e + 1, t', y', by simpa using hd0.append g1, by omega, by simp; omega, by simpa using g4, g5, g6⟩
    | cons c x =>
      by_cases hlt : (c :: x).length < m
      · obtain ⟨n0, hn0, hd0⟩ := hS A _ _ (by simp) hlt hone
        rcases ih2 (by simp at hm; omega) with ⟨e1, e2, _⟩ | ⟨n', h, e, t', y', g1, g2, g3, g4, g5, g6⟩
        · simp at hm; omega
        · have hxl : (c :: x ++ y).length = (c :: x).length + y.length := List.length_append
          obtain ⟨q, hq⟩ : ∃ q, (c :: x).length = q := ⟨_, rfl⟩
          rw [hq] at hn0 hxl hlt
          have e1 : n0 + n' + 372 * (h + 1) ≤ 10 * e + 744 * (y' + q) := by clear hq hxl g5 g6 g3 hm ih2; omega
          refine .inr ⟨n0 + n', h + 1, e, t', y' + q, hd0.append g1, e1, by simp only [List.length_cons]; omega, by omega, ?_, by omega⟩
          intro hh
          have := g6 (by omega)
          omega
      · have hy : y = [] := by
          apply List.eq_nil_of_length_eq_zero
          simp at hm hlt; omega
        subst hy
        refine .inl ⟨by simp at hm hlt ⊢; omega, by simp, [], A, l, 0, n + 1, k, rfl, hA, by omega, .nil, by simpa using hone, h2⟩

theorem exists_min {P : Nat → Prop} : ∀ n, P n → ∃ k, k ≤ n ∧ P k ∧ ∀ j, P j → k ≤ j := by
  intro n
  induction n using Nat.strongRecOn with
  | _ n ih =>
    intro hn
    by_cases h : ∃ j, j < n ∧ P j
    · obtain ⟨j, hj, hP⟩ := h
      obtain ⟨k, h1, h2, h3⟩ := ih j hj hP
      exact ⟨k, by omega, h2, h3⟩
    · exact ⟨n, Nat.le_refl _, hn, fun j hj => Nat.le_of_not_lt fun hlt => h ⟨j, hlt, hj⟩⟩

theorem heads_mem {A : Str} (h : isHead g A = true) : A ∈ g.map (·.1) := by
  obtain ⟨b, hb⟩ := isHead_iff.1 h
  exact List.mem_map.2 ⟨_, hb, rfl⟩

theorem visited (hL : Lite g) {A : Str} {V : List Str} (hA : isHead g A = true) (hn : A ∉ V) (hV : V.Nodup) (hH : ∀ B ∈ V, isHead g B = true) : V.length + 1 ≤ 12 := by
  have := nodup_le (V := A :: V) (L := g.map (·.1)) (List.nodup_cons.2 ⟨hn, hV⟩) (fun x hx => by
    rcases List.mem_cons.1 hx with rfl | hx
    · exact heads_mem hA
    · exact heads_mem (hH x hx))
  simp at this
  have := hL.len
  omega

set_option maxRecDepth 20000 in
theorem chain (hL : Lite g) {m : Nat} (hm : 0 < m) (hS : SmallTo g m) (x : List Str) (hx : x.length = m) : ∀ (n : Nat) (V : List Str) (A : Str), V.Nodup → (∀ B ∈ V, isHead g B = true ∧ ∃ k, (D g k [B] x ∧ ∀ j, D g j [B] x → k ≤ j) ∧ n < k) →
    D g n [A] x → (∀ j, D g j [A] x → n ≤ j) → n ≤ 31 * (12 - V.length) + 372 * (2 * m - 2) := by
  intro n
  induction n using Nat.strongRecOn with
  | _ n ih =>
    intro V A hV hB hd hmin
    cases hd with
    | term ht h => cases h; exact Nat.zero_le _
    | @head _ b _ x' y' nb mb hmem h1 h2 =>
      cases h2
      simp only [List.append_nil] at *
      have hA : isHead g A = true := isHead_iff.2 ⟨b, hmem⟩
      have hAV : A ∉ V := fun hin => by
        obtain ⟨_, k, ⟨hk1, hk2⟩, hlt⟩ := hB A hin
        have := hk2 _ (D.one hmem h1)
        omega
      have hV12 := visited hL hA hAV hV (fun B h => (hB B h).1)
      have hb4 := hL.body _ hmem
      simp only at hb4
      rcases forest hL hS h1 (by omega) with ⟨_, _, l1, X, l2, k1, k, k2, rfl, hX, hk, d1, d2, d3⟩ | ⟨n', h, e, t, y, g1, g2, g3, g4, g5, g6⟩
      · obtain ⟨nX, hle, hX1, hX2⟩ := exists_min (P := fun j => D g j [X] x') k d2
        obtain ⟨e1, he1, c1⟩ := hL.epsList d1
        obtain ⟨e2, he2, c2⟩ := hL.epsList d3
        have hnew := D.one hmem (c1.append ((show D g nX [X] x' from hX1).append c2))
        simp at hnew
        have hle2 := hmin _ (by simpa using hnew)
        have := ih nX (by omega) (A :: V) X (List.nodup_cons.2 ⟨hAV, hV⟩) (fun B hin => by
          rcases List.mem_cons.1 hin with rfl | hin
          · exact ⟨hA, _, ⟨D.one hmem h1, fun j hj => by have := hmin j hj; omega⟩, by omega⟩
          · obtain ⟨q1, kk, q2, q3⟩ := hB B hin
            exact ⟨q1, kk, q2, by omega⟩) hX1 hX2
        simp at hb4 this
        omega
      · have hle2 := hmin _ (D.one hmem g1)
        rcases Nat.lt_trichotomy h 1 with h0 | h0 | h0
        · have := g6 (by omega)
          omega
        · have := g5 h0
          omega
        · omega

theorem small_to (hL : Lite g) : ∀ m, SmallTo g m
  | 0 => fun _ _ _ _ h => absurd h (Nat.not_lt_zero _)
  | m + 1 => by
    intro A x n hx hlt hd
    by_cases h : x.length < m
    · exact small_to hL m A x n hx h hd
    · have hxm : x.length = m := by omega
      have h0 : 0 < m := by rw [← hxm]; exact List.length_pos_iff.2 hx
      obtain ⟨k, _, hk, hmin⟩ := exists_min (P := fun j => D g j [A] x) n hd
      have := chain hL h0 (small_to hL m) x hxm k [] A List.nodup_nil (by simp) hk hmin
      simp at this
      exact ⟨k, by rw [hxm]; omega, hk⟩

/-- Whatever derives, derives by few productions. -/
theorem small (hL : Lite g) {A : Str} {x : List Str} {n : Nat} (h : D g n [A] x) : ∃ n', n' ≤ 10 + 744 * x.length - 372 * (if x = [] then 0 else 1) ∧ D g n' [A] x := by
  by_cases hx : x = []
  · subst hx
    obtain ⟨n', h1, h2⟩ := hL.eps A n h
    exact ⟨n', by simpa using h1, h2⟩
  · obtain ⟨n', h1, h2⟩ := small_to hL (x.length + 1) A x n hx (by omega) h
    exact ⟨n', by rw [if_neg hx]; omega, h2⟩

set_option maxRecDepth 20000 in
theorem smallList (hL : Lite g) {l x : List Str} {n : Nat} (h : D g n l x) (hl : l.length ≤ 3) : ∃ n', D g n' l x ∧ n' + (if x = [] then 0 else 382) ≤ 30 + 744 * x.length := by
  rcases forest hL (small_to hL (x.length + 1)) h (by omega) with ⟨e, _⟩ | ⟨n', h, e, t, y, g1, g2, g3, g4, g5, g6⟩
  · omega
  · refine ⟨n', g1, ?_⟩
    by_cases hx : x = []
    · subst hx
      simp at g4 ⊢
      omega
    · rw [if_neg hx]
      have := List.length_pos_iff.2 hx
      by_cases h0 : h = 0
      · have := g6 h0; omega
      · omega

theorem Pt.parts {n : Nat} {l u : List Str} {a : Str} (h : Pt g n l u a) : ∃ l1 Y l2 u1 u2 k1 k2, l = l1 ++ Y :: l2 ∧ D g k1 l1 u1 ∧ u = u1 ++ u2 ∧ n = k1 + k2 ∧
    ((Y = a ∧ u2 = [] ∧ isHead g a = false) ∨ (isHead g Y = true ∧ Pt g k2 [Y] u2 a)) := by
  induction h with
  | @term t l ht => exact ⟨[], t, l, [], [], 0, 0, rfl, .nil, rfl, rfl, .inl ⟨rfl, rfl, ht⟩⟩
  | @head A a b l u n hm h _ => exact ⟨[], A, l, [], u, 0, n + 1, rfl, .nil, rfl, by omega, .inr ⟨isHead_iff.2 ⟨b, hm⟩, .head hm h⟩⟩
  | @skipT t a l u n ht h ih =>
    obtain ⟨l1, Y, l2, u1, u2, k1, k2, rfl, h1, rfl, rfl, h2⟩ := ih
    exact ⟨t :: l1, Y, l2, t :: u1, u2, k1, k2, rfl, .term ht h1, rfl, rfl, h2⟩
  | @skipH A a b l x u n m hm h0 h ih =>
    obtain ⟨l1, Y, l2, u1, u2, k1, k2, rfl, h1, rfl, rfl, h2⟩ := ih
    exact ⟨A :: l1, Y, l2, x ++ u1, u2, n + k1 + 1, k2, rfl, .head hm h0 h1, by simp, by omega, h2⟩

theorem Pt.join {k1 k2 : Nat} {l1 l2 u1 u2 : List Str} {Y a : Str} (h1 : D g k1 l1 u1) (h2 : (Y = a ∧ u2 = [] ∧ isHead g a = false ∧ k2 = 0) ∨ Pt g k2 [Y] u2 a) : Pt g (k1 + k2) (l1 ++ Y :: l2) (u1 ++ u2) a := by
  induction h1 with
  | nil =>
    rcases h2 with ⟨rfl, rfl, ht, rfl⟩ | h
    · exact .term ht
    · simpa using h.right (l' := l2)
  | term ht _ ih => exact .skipT ht (ih)
  | @head A b l x y n m hm h0 _ _ ih =>
    have := Pt.skipH hm h0 ih
    have e : n + (m + k2) + 1 = n + m + 1 + k2 := by omega
    rw [e] at this
    simpa using this

set_option maxRecDepth 20000 in
theorem chainP (hL : Lite g) (a : Str) (u : List Str) (hS : ∀ A v n, v.length < u.length → Pt g n [A] v a → ∃ n', n' ≤ 372 * (2 * v.length + 1) ∧ Pt g n' [A] v a) :
    ∀ (n : Nat) (V : List Str) (A : Str), V.Nodup → (∀ B ∈ V, isHead g B = true ∧ ∃ k, (Pt g k [B] u a ∧ ∀ j, Pt g j [B] u a → k ≤ j) ∧ n < k) →
    Pt g n [A] u a → (∀ j, Pt g j [A] u a → n ≤ j) → n ≤ 31 * (12 - V.length) + 744 * u.length := by
  intro n
  induction n using Nat.strongRecOn with
  | _ n ih =>
    intro V A hV hB hd hmin
    cases hd with
    | term ht => exact Nat.zero_le _
    | skipT _ h => cases h
    | skipH _ _ h => cases h
    | @head _ _ b _ _ nb hmem h1 =>
      have hA : isHead g A = true := isHead_iff.2 ⟨b, hmem⟩
      have hAV : A ∉ V := fun hin => by
        obtain ⟨_, k, ⟨hk1, hk2⟩, hlt⟩ := hB A hin
        have := hk2 _ (Pt.head (l := []) hmem h1)
        omega
      have hV12 := visited hL hA hAV hV (fun B h => (hB B h).1)
      have hb4 := hL.body _ hmem
      simp only at hb4
      obtain ⟨l1, Y, l2, u1, u2, k1, k2, rfl, d1, rfl, rfl, hY⟩ := h1.parts
      simp at hb4
      obtain ⟨n1, c1, hn1⟩ := smallList hL d1 (by omega)
      have fin : ∀ k2', ((Y = a ∧ u2 = [] ∧ isHead g a = false ∧ k2' = 0) ∨ Pt g k2' [Y] u2 a) → k1 + k2 + 1 ≤ n1 + k2' + 1 := fun k2' h =>
        hmin _ (Pt.head (l := []) hmem (Pt.join (l2 := l2) c1 h))
      by_cases hu1 : u1 = []
      · subst hu1
        simp at hn1
        rcases hY with ⟨rfl, rfl, ht⟩ | ⟨hYh, hP⟩
        · have := fin 0 (.inl ⟨rfl, rfl, ht, rfl⟩)
          omega
        · obtain ⟨nY, hle, hY1, hY2⟩ := exists_min (P := fun j => Pt g j [Y] u2 a) k2 hP
          have hf := fin nY (.inr hY1)
          have := ih nY (by omega) (A :: V) Y (List.nodup_cons.2 ⟨hAV, hV⟩) (fun B hin => by
            rcases List.mem_cons.1 hin with rfl | hin
            · exact ⟨hA, _, ⟨Pt.head (l := []) hmem h1, hmin⟩, by omega⟩
            · obtain ⟨q1, kk, q2, q3⟩ := hB B hin
              exact ⟨q1, kk, q2, by omega⟩) hY1 hY2
          simp at this ⊢
          omega
      · rw [if_neg hu1] at hn1
        have hpos := List.length_pos_iff.2 hu1
        rcases hY with ⟨rfl, rfl, ht⟩ | ⟨hYh, hP⟩
        · have := fin 0 (.inl ⟨rfl, rfl, ht, rfl⟩)
          simp
          omega
        · obtain ⟨n2, hn2, hd2⟩ := hS Y u2 _ (by simp; omega) hP
          have := fin n2 (.inr hd2)
          simp
          omega

theorem smallP (hL : Lite g) (a : Str) : ∀ (m : Nat) (A : Str) (u : List Str) (n : Nat), u.length < m → Pt g n [A] u a → ∃ n', n' ≤ 372 * (2 * u.length + 1) ∧ Pt g n' [A] u a
  | 0, _, _, _, h, _ => absurd h (Nat.not_lt_zero _)
  | m + 1, A, u, n, h, hd => by
    obtain ⟨k, _, hk, hmin⟩ := exists_min (P := fun j => Pt g j [A] u a) n hd
    have := chainP hL a u (fun A v n hv hP => smallP hL a m A v n (by omega) hP) k [] A List.nodup_nil (by simp) hk hmin
    simp at this
    exact ⟨k, by omega, hk⟩
end Lr
namespace Lr
variable {g : Gram}

theorem nodup_le_of {α : Type} [DecidableEq α] : ∀ {V L : List α}, V.Nodup → (∀ x ∈ V, x ∈ L) → V.length ≤ L.length
  | [], L, _, _ => Nat.zero_le _
  | x :: V, L, h, hs => by
    have hx := hs x (List.mem_cons_self ..)
    have h2 := List.nodup_cons.1 h
    have := nodup_le_of (V := V) (L := L.erase x) h2.2 (fun y hy => (List.mem_erase_of_ne (fun e => h2.1 (by rw [← e]; exact hy))).2 (hs y (List.mem_cons_of_mem _ hy)))
    have hl := List.length_erase_of_mem hx
    have : 0 < L.length := List.length_pos_of_mem hx
    simp only [List.length_cons]
    omega

/-- What an item leads to at once. -/
def Succ (g : Gram) (i j : Itm) : Prop := ∃ B δ n b c, i.rest g = B :: δ ∧ g[n]? = some (B, b) ∧ Fst g δ i.look c ∧ j = ⟨some n, 0, c⟩
inductive Cls (g : Gram) (S : Itm → Prop) : Itm → Prop
  | base {i : Itm} : S i → Cls g S i
  | close {i j : Itm} : Cls g S i → Succ g i j → Cls g S j
/-- The items behind a symbol. -/
def Shf (g : Gram) (S : Itm → Prop) (X : Str) (j : Itm) : Prop := ∃ i δ, S i ∧ i.rest g = X :: δ ∧ j = ⟨i.prod, i.dot + 1, i.look⟩

theorem Cls.mono {S T : Itm → Prop} (h : ∀ i, S i → T i) {j : Itm} (hj : Cls g S j) : Cls g T j := by
  induction hj with
  | base hi => exact .base (h _ hi)
  | close _ hs ih => exact .close ih hs
theorem Vld.succ {γ : List Str} {i j : Itm} (h : Vld g γ i) (hs : Succ g i j) : Vld g γ j := by
  obtain ⟨B, δ, n, b, c, h1, h2, h3, rfl⟩ := hs
  exact .close h h1 h2 h3
theorem vld_snoc {γ : List Str} {X : Str} {j : Itm} : Vld g (γ ++ [X]) j ↔ Cls g (Shf g (Vld g γ) X) j := by
  constructor
  · intro h
    generalize hg : γ ++ [X] = γ' at h
    induction h with
    | init => simp at hg
    | close _ h1 h2 h3 ih => exact .close (ih hg) ⟨_, _, _, _, _, h1, h2, h3, rfl⟩
    | @shift γ0 i Y δ h1 h2 _ =>
      obtain ⟨rfl, e⟩ := List.append_inj' hg rfl
      obtain rfl : X = Y := by simpa using e
      exact .base ⟨i, δ, h1, h2, rfl⟩
  · intro h
    induction h with
    | base h => obtain ⟨i, δ, h1, h2, rfl⟩ := h; exact .shift h1 h2
    | close _ hs ih => exact ih.succ hs
theorem vld_nil {j : Itm} : Vld g [] j ↔ Cls g (· = ⟨none, 0, endS⟩) j := by
  constructor
  · intro h
    generalize hg : ([] : List Str) = γ' at h
    induction h with
    | init => exact .base rfl
    | close _ h1 h2 h3 ih => exact .close (ih hg) ⟨_, _, _, _, _, h1, h2, h3, rfl⟩
    | shift => simp at hg
  · intro h
    induction h with
    | base h => rw [h]; exact .init
    | close _ hs ih => exact ih.succ hs

/-- Two rows of symbols have the same items. -/
def Same (g : Gram) (γ γ' : List Str) : Prop := ∀ i, Vld g γ i ↔ Vld g γ' i
theorem Same.refl (γ : List Str) : Same g γ γ := fun _ => Iff.rfl
theorem Same.symm {γ γ' : List Str} (h : Same g γ γ') : Same g γ' γ := fun i => (h i).symm
theorem Same.trans {a b c : List Str} (h : Same g a b) (k : Same g b c) : Same g a c := fun i => (h i).trans (k i)
theorem Same.snoc {γ γ' : List Str} (h : Same g γ γ') (X : Str) : Same g (γ ++ [X]) (γ' ++ [X]) := fun j => by
  rw [vld_snoc, vld_snoc]
  exact ⟨Cls.mono fun _ ⟨i, δ, h1, h2⟩ => ⟨i, δ, (h i).1 h1, h2⟩, Cls.mono fun _ ⟨i, δ, h1, h2⟩ => ⟨i, δ, (h i).2 h1, h2⟩⟩
/-- A row of symbols has items. -/
def Live (g : Gram) (γ : List Str) : Prop := ∃ i, Vld g γ i
theorem Live.same {γ γ' : List Str} (h : Live g γ) (hs : Same g γ γ') : Live g γ' := h.imp fun i hi => (hs i).1 hi
theorem live_nil : Live g [] := ⟨_, .init⟩
theorem Live.shf {γ : List Str} {X : Str} (h : Live g (γ ++ [X])) : ∃ i δ, Vld g γ i ∧ i.rest g = X :: δ := by
  obtain ⟨j, hj⟩ := h
  rw [vld_snoc] at hj
  induction hj with
  | base h => obtain ⟨i, δ, h1, h2, _⟩ := h; exact ⟨i, δ, h1, h2⟩
  | close _ _ ih => exact ih
theorem Live.prev {γ : List Str} {X : Str} (h : Live g (γ ++ [X])) : Live g γ := by
  obtain ⟨i, _, h1, _⟩ := h.shf
  exact ⟨i, h1⟩
theorem live_snoc {γ : List Str} {X : Str} {i : Itm} {δ : List Str} (h : Vld g γ i) (hr : i.rest g = X :: δ) : Live g (γ ++ [X]) := ⟨_, .shift h hr⟩
theorem rest_body {i : Itm} {X : Str} {δ : List Str} (hr : i.rest g = X :: δ) : X ∈ body g i.prod := by
  have : X ∈ (body g i.prod).drop i.dot := by rw [show (body g i.prod).drop i.dot = X :: δ from hr]; exact List.mem_cons_self ..
  exact List.mem_of_mem_drop this
/-- Symbols that stand behind a dot. -/
def SymIn (g : Gram) (X : Str) : Prop := X = start g ∨ ∃ p ∈ g, X ∈ p.2
theorem body_sym {q : Option Nat} {X : Str} (h : X ∈ body g q) : SymIn g X := by
  cases q with
  | none => left; simpa [body] using h
  | some n =>
    right
    change X ∈ (g[n]?.getD ([], [])).2 at h
    cases hn : g[n]? with
    | none => rw [hn] at h; simp at h
    | some p => rw [hn] at h; exact ⟨p, List.mem_of_getElem? hn, by simpa using h⟩
theorem Live.sym {γ : List Str} {X : Str} (h : Live g (γ ++ [X])) : SymIn g X := by
  obtain ⟨i, δ, _, h2⟩ := h.shf
  exact body_sym (rest_body h2)

/-! ### The rows that stand for the states, in the order in which they come up -/
open Classical in
noncomputable def stepC (g : Gram) (γ : List Str) (Γ : List (List Str)) (X : Str) : List (List Str) :=
  if Live g (γ ++ [X]) ∧ ¬ ∃ γ' ∈ Γ, Same g γ' (γ ++ [X]) then Γ ++ [γ ++ [X]] else Γ
noncomputable def rowC (g : Gram) (γ : List Str) (syms : List Str) (Γ : List (List Str)) : List (List Str) := syms.foldl (stepC g γ) Γ
noncomputable def collC (g : Gram) (syms : List Str) : Nat → List (List Str)
  | 0 => [[]]
  | n + 1 => match (collC g syms n)[n]? with
    | some γ => rowC g γ syms (collC g syms n)
    | none => collC g syms n

/-- What such a row of rows keeps. -/
structure GamOk (g : Gram) (Γ : List (List Str)) : Prop where
  zero : Γ[0]? = some []
  live : ∀ γ ∈ Γ, Live g γ
  dist : ∀ (i j : Nat) (γ γ' : List Str), Γ[i]? = some γ → Γ[j]? = some γ' → Same g γ γ' → i = j
  back : ∀ (j : Nat) (γ : List Str), Γ[j]? = some γ → j = 0 ∨ ∃ (i : Nat) (γ' : List Str) (X : Str), i < j ∧ Γ[i]? = some γ' ∧ γ = γ' ++ [X]

theorem getElem?_snoc {α : Type} {l : List α} {x y : α} {k : Nat} (h : (l ++ [x])[k]? = some y) : l[k]? = some y ∨ (k = l.length ∧ y = x) := by
  rw [List.getElem?_append] at h
  split at h
  · exact .inl h
  · rename_i hk
    right
    have h2 := (List.getElem?_eq_some_iff.1 h)
    obtain ⟨h3, h4⟩ := h2
    simp at h3 h4
    exact ⟨by omega, h4.symm⟩
theorem GamOk.init : GamOk g [[]] := by
  refine ⟨rfl, ?_, ?_, ?_⟩
  · intro γ h; simp at h; subst h; exact live_nil
  · intro i j γ γ' h1 h2 _
    have := (List.getElem?_eq_some_iff.1 h1).1
    have := (List.getElem?_eq_some_iff.1 h2).1
    simp at *; omega
  · intro j γ h
    have := (List.getElem?_eq_some_iff.1 h).1
    simp at this; exact .inl this
theorem GamOk.step {Γ : List (List Str)} (h : GamOk g Γ) {γ : List Str} (hγ : γ ∈ Γ) (X : Str) : GamOk g (stepC g γ Γ X) := by
  unfold stepC
  split
  · rename_i hc
    obtain ⟨hl, hn⟩ := hc
    have hz : Γ[0]? = some [] := h.zero
    refine ⟨?_, ?_, ?_, ?_⟩
    · have : 0 < Γ.length := (List.getElem?_eq_some_iff.1 hz).1
      rw [List.getElem?_append_left this]; exact hz
    · intro δ hδ
      rcases List.mem_append.1 hδ with hδ | hδ
      · exact h.live δ hδ
      · simp at hδ; subst hδ; exact hl
    · intro i j a b ha hb hs
      rcases getElem?_snoc ha with ha | ⟨rfl, rfl⟩
      · rcases getElem?_snoc hb with hb | ⟨rfl, rfl⟩
        · exact h.dist i j a b ha hb hs
        · exact absurd ⟨a, List.mem_of_getElem? ha, hs⟩ hn
      · rcases getElem?_snoc hb with hb | ⟨rfl, rfl⟩
        · exact absurd ⟨b, List.mem_of_getElem? hb, hs.symm⟩ hn
        · rfl
    · intro j a ha
      rcases getElem?_snoc ha with ha | ⟨rfl, rfl⟩
      · rcases h.back j a ha with h0 | ⟨i, γ', Y, hi, hγ', e⟩
        · exact .inl h0
        · refine .inr ⟨i, γ', Y, hi, ?_, e⟩
          rw [List.getElem?_append_left (List.getElem?_eq_some_iff.1 hγ').1]; exact hγ'
      · obtain ⟨i, hi⟩ := List.getElem?_of_mem hγ
        have hlt := (List.getElem?_eq_some_iff.1 hi).1
        exact .inr ⟨i, γ, X, hlt, by rw [List.getElem?_append_left hlt]; exact hi, rfl⟩
  · exact h
theorem stepC_pre (γ : List Str) (Γ : List (List Str)) (X : Str) : ∃ L, stepC g γ Γ X = Γ ++ L := by
  unfold stepC; split
  · exact ⟨_, rfl⟩
  · exact ⟨[], by simp⟩
theorem rowC_pre (γ : List Str) : ∀ (syms : List Str) (Γ : List (List Str)), ∃ L, rowC g γ syms Γ = Γ ++ L
  | [], Γ => ⟨[], by simp [rowC]⟩
  | X :: syms, Γ => by
    obtain ⟨L, hL⟩ := stepC_pre (g := g) γ Γ X
    obtain ⟨M, hM⟩ := rowC_pre γ syms (stepC g γ Γ X)
    exact ⟨L ++ M, by rw [← List.append_assoc, ← hL, ← hM]; rfl⟩
theorem mem_pre {Γ L : List (List Str)} {γ : List Str} (h : γ ∈ Γ) : γ ∈ Γ ++ L := List.mem_append.2 (.inl h)
theorem GamOk.row {γ : List Str} : ∀ (syms : List Str) {Γ : List (List Str)}, GamOk g Γ → γ ∈ Γ → GamOk g (rowC g γ syms Γ)
  | [], _, h, _ => h
  | X :: syms, Γ, h, hγ => by
    obtain ⟨L, hL⟩ := stepC_pre (g := g) γ Γ X
    exact GamOk.row syms (h.step hγ X) (by rw [hL]; exact mem_pre hγ)
theorem collC_ok (g : Gram) (syms : List Str) : ∀ n, GamOk g (collC g syms n)
  | 0 => .init
  | n + 1 => by
    have ih := collC_ok g syms n
    unfold collC
    split
    · rename_i γ h
      exact ih.row syms (List.mem_of_getElem? h)
    · exact ih
theorem collC_pre (g : Gram) (syms : List Str) (n : Nat) : ∃ L, collC g syms (n + 1) = collC g syms n ++ L := by
  rw [collC]
  split
  · exact rowC_pre _ _ _
  · exact ⟨[], by simp⟩
theorem collC_le (g : Gram) (syms : List Str) {n : Nat} : ∀ {m : Nat}, n ≤ m → ∃ L, collC g syms m = collC g syms n ++ L
  | 0, h => by obtain rfl : n = 0 := by omega
               exact ⟨[], by simp⟩
  | m + 1, h => by
    by_cases e : n = m + 1
    · subst e; exact ⟨[], by simp⟩
    · obtain ⟨L, hL⟩ := collC_le g syms (n := n) (m := m) (by omega)
      obtain ⟨M, hM⟩ := collC_pre g syms m
      exact ⟨L ++ M, by rw [hM, hL, List.append_assoc]⟩
/-- A step finds a row for whatever has items. -/
theorem stepC_has {γ : List Str} {Γ : List (List Str)} {X : Str} (h : Live g (γ ++ [X])) : ∃ γ' ∈ stepC g γ Γ X, Same g γ' (γ ++ [X]) := by
  unfold stepC
  split
  · exact ⟨_, by simp, Same.refl _⟩
  · rename_i hc
    exact Classical.byContradiction fun hn => hc ⟨h, hn⟩
theorem rowC_has {γ : List Str} : ∀ {syms : List Str} {Γ : List (List Str)} {X : Str}, X ∈ syms → Live g (γ ++ [X]) → ∃ γ' ∈ rowC g γ syms Γ, Same g γ' (γ ++ [X])
  | Y :: syms, Γ, X, hX, h => by
    rcases List.mem_cons.1 hX with rfl | hX
    · obtain ⟨γ', h1, h2⟩ := stepC_has (Γ := Γ) h
      obtain ⟨L, hL⟩ := rowC_pre (g := g) γ syms (stepC g γ Γ X)
      exact ⟨γ', by show γ' ∈ rowC g γ syms (stepC g γ Γ X); rw [hL]; exact mem_pre h1, h2⟩
    · exact rowC_has (Γ := stepC g γ Γ Y) hX h
theorem collC_has {syms : List Str} {n k : Nat} (hk : k < n) {γ : List Str} (hγ : (collC g syms n)[k]? = some γ) {X : Str} (hX : X ∈ syms) (h : Live g (γ ++ [X])) : ∃ γ' ∈ collC g syms n, Same g γ' (γ ++ [X]) := by
  obtain ⟨L, hL⟩ := collC_le g syms (n := k + 1) (m := n) hk
  have hlen : (collC g syms n).length ≥ (collC g syms (k + 1)).length := by rw [hL]; simp
  -- the k-th row is there ahead of its turn
  have hk1 : (collC g syms k)[k]? = some γ := by
    cases hc : (collC g syms k)[k]? with
    | some δ =>
      obtain ⟨M, hM⟩ := collC_le g syms (n := k) (m := n) (by omega)
      rw [hM, List.getElem?_append_left (List.getElem?_eq_some_iff.1 hc).1, hc] at hγ
      exact hγ
    | none =>
      exfalso
      have hle : (collC g syms k).length ≤ k := by simpa using hc
      have stay : ∀ m, k ≤ m → collC g syms m = collC g syms k := by
        intro m hm
        induction m with
        | zero => obtain rfl : k = 0 := by omega
                  rfl
        | succ m ih =>
          by_cases e : k = m + 1
          · rw [e]
          · have ih := ih (by omega)
            rw [collC]
            have : (collC g syms m)[m]? = none := by rw [ih]; simp; omega
            rw [this]; exact ih
      rw [stay n (by omega), hc] at hγ
      cases hγ
  have e : collC g syms (k + 1) = rowC g γ syms (collC g syms k) := by rw [collC, hk1]
  obtain ⟨γ', h1, h2⟩ := rowC_has (Γ := collC g syms k) hX h
  exact ⟨γ', by rw [hL, e]; exact mem_pre h1, h2⟩
/-- The rows are all there. -/
def DoneC (g : Gram) (syms : List Str) (n : Nat) : Prop := (collC g syms n).length ≤ n
theorem DoneC.stay {syms : List Str} {n : Nat} (h : DoneC g syms n) : ∀ m, n ≤ m → collC g syms m = collC g syms n := by
  intro m hm
  induction m with
  | zero => obtain rfl : n = 0 := by omega
            rfl
  | succ m ih =>
    by_cases e : n = m + 1
    · rw [e]
    · have ih := ih (by omega)
      rw [collC]
      have : (collC g syms m)[m]? = none := by rw [ih]; unfold DoneC at h; simp; omega
      rw [this]; exact ih
theorem DoneC.eq {syms : List Str} {n m : Nat} (h : DoneC g syms n) (k : DoneC g syms m) : collC g syms n = collC g syms m := by
  rcases Nat.le_total n m with e | e
  · exact (h.stay m e).symm
  · exact k.stay n e
/-- Then every row of symbols that has items has its row there. -/
theorem DoneC.all {syms : List Str} {n : Nat} (h : DoneC g syms n) (hs : ∀ X, SymIn g X → X ∈ syms) : ∀ (γ : List Str), Live g γ → ∃ γ' ∈ collC g syms n, Same g γ' γ := by
  have main : ∀ (m : Nat) (γ : List Str), γ.length = m → Live g γ → ∃ γ' ∈ collC g syms n, Same g γ' γ := by
    intro m
    induction m with
    | zero =>
      intro γ hl _
      obtain rfl : γ = [] := List.eq_nil_of_length_eq_zero hl
      exact ⟨[], List.mem_of_getElem? (collC_ok g syms n).zero, Same.refl _⟩
    | succ m ih =>
      intro γ hl hv
      have hne : γ ≠ [] := by intro e; subst e; simp at hl
      obtain ⟨δ, X, rfl⟩ : ∃ δ X, γ = δ ++ [X] := ⟨γ.dropLast, γ.getLast hne, (List.dropLast_concat_getLast hne).symm⟩
      obtain ⟨γ', h1, h2⟩ := ih δ (by simpa using hl) hv.prev
      obtain ⟨k, hk⟩ := List.getElem?_of_mem h1
      have hkl := (List.getElem?_eq_some_iff.1 hk).1
      obtain ⟨γ'', h3, h4⟩ := collC_has (n := n) (k := k) (by unfold DoneC at h; omega) hk (hs X hv.sym) (hv.same (h2.symm.snoc X))
      exact ⟨γ'', h3, h4.trans (h2.snoc X)⟩
  exact fun γ hv => main _ γ rfl hv

/-- Few states. -/
def Few (g : Gram) (N : Nat) : Prop := ∃ Γ : List (List Str), Γ.length ≤ N ∧ ∀ γ, Live g γ → ∃ γ' ∈ Γ, Same g γ' γ
open Classical in
theorem Few.le {N : Nat} (h : Few g N) {Γ : List (List Str)} (hΓ : GamOk g Γ) : Γ.length ≤ N := by
  obtain ⟨Δ, hl, hΔ⟩ := h
  have hf : ∀ k : Nat, ∃ j, k < Γ.length → ∃ γ δ, Γ[k]? = some γ ∧ Δ[j]? = some δ ∧ Same g δ γ := fun k => by
    by_cases hk : k < Γ.length
    · obtain ⟨δ, h1, h2⟩ := hΔ Γ[k] (hΓ.live _ (List.getElem_mem hk))
      obtain ⟨j, hj⟩ := List.getElem?_of_mem h1
      exact ⟨j, fun _ => ⟨Γ[k], δ, List.getElem?_eq_getElem hk, hj, h2⟩⟩
    · exact ⟨0, fun h => absurd h hk⟩
  let f : Nat → Nat := fun k => Classical.choose (hf k)
  have f_spec : ∀ k, k < Γ.length → ∃ γ δ, Γ[k]? = some γ ∧ Δ[f k]? = some δ ∧ Same g δ γ := fun k => Classical.choose_spec (hf k)
  have hnd : ((List.range Γ.length).map f).Nodup := by
    unfold List.Nodup
    rw [List.pairwise_map, List.pairwise_iff_getElem]
    intro i j hi hj hij e
    simp only [List.length_range] at hi hj
    simp only [List.getElem_range] at e
    obtain ⟨γ, δ, h1, h2, h3⟩ := f_spec i hi
    obtain ⟨γ', δ', h1', h2', h3'⟩ := f_spec j hj
    rw [e, h2'] at h2
    obtain rfl : δ' = δ := by simpa using h2
    have := hΓ.dist i j γ γ' h1 h1' (h3.symm.trans h3')
    omega
  have := nodup_le_of (L := List.range Δ.length) hnd (fun x hx => by
    obtain ⟨k, hk, rfl⟩ := List.mem_map.1 hx
    simp only [List.mem_range] at hk
    obtain ⟨γ, δ, _, h2, _⟩ := f_spec k hk
    exact List.mem_range.2 (List.getElem?_eq_some_iff.1 h2).1)
  simp at this
  omega
theorem DoneC.few {syms : List Str} {n N : Nat} (h : DoneC g syms n) (hs : ∀ X, SymIn g X → X ∈ syms) (hn : (collC g syms n).length ≤ N) : Few g N := ⟨_, hn, h.all hs⟩

/-- The edge from the k-th row to the j-th one. -/
def EdgeC (g : Gram) (Γ : List (List Str)) (k : Nat) (X : Str) (j : Nat) : Prop := ∃ γ γ', Γ[k]? = some γ ∧ Γ[j]? = some γ' ∧ Live g (γ ++ [X]) ∧ Same g γ' (γ ++ [X])
theorem EdgeC.uniq {Γ : List (List Str)} (h : GamOk g Γ) {k j j' : Nat} {X : Str} (h1 : EdgeC g Γ k X j) (h2 : EdgeC g Γ k X j') : j = j' := by
  obtain ⟨γ, γ', a1, a2, _, a3⟩ := h1
  obtain ⟨δ, δ', b1, b2, _, b3⟩ := h2
  rw [a1] at b1
  obtain rfl : γ = δ := by simpa using b1
  exact h.dist j j' γ' δ' a2 b2 (a3.trans b3.symm)
/-- A full set of rows. -/
structure Full (g : Gram) (Γ : List (List Str)) : Prop extends GamOk g Γ where
  all : ∀ γ, Live g γ → ∃ γ' ∈ Γ, Same g γ' γ
theorem DoneC.full {syms : List Str} {n : Nat} (h : DoneC g syms n) (hs : ∀ X, SymIn g X → X ∈ syms) : Full g (collC g syms n) := ⟨collC_ok g syms n, h.all hs⟩
theorem Full.edge {Γ : List (List Str)} (h : Full g Γ) {k : Nat} {γ : List Str} {X : Str} (hk : Γ[k]? = some γ) (hl : Live g (γ ++ [X])) : ∃ j, EdgeC g Γ k X j := by
  obtain ⟨γ', h1, h2⟩ := h.all _ hl
  obtain ⟨j, hj⟩ := List.getElem?_of_mem h1
  exact ⟨j, γ, γ', hk, hj, hl, h2⟩
/-- From one full set of rows to another. -/
def To (g : Gram) (Γ Δ : List (List Str)) (i j : Nat) : Prop := ∃ γ δ, Γ[i]? = some γ ∧ Δ[j]? = some δ ∧ Same g γ δ
theorem Full.to {Γ Δ : List (List Str)} (h : Full g Γ) (k : Full g Δ) {i : Nat} (hi : i < Γ.length) : ∃ j, To g Γ Δ i j := by
  obtain ⟨δ, h1, h2⟩ := k.all Γ[i] (h.live _ (List.getElem_mem hi))
  obtain ⟨j, hj⟩ := List.getElem?_of_mem h1
  exact ⟨j, Γ[i], δ, List.getElem?_eq_getElem hi, hj, h2.symm⟩
theorem To.uniq {Γ Δ : List (List Str)} (k : GamOk g Δ) {i j j' : Nat} (h1 : To g Γ Δ i j) (h2 : To g Γ Δ i j') : j = j' := by
  obtain ⟨γ, δ, a1, a2, a3⟩ := h1
  obtain ⟨γ', δ', b1, b2, b3⟩ := h2
  rw [a1] at b1
  obtain rfl : γ = γ' := by simpa using b1
  exact k.dist j j' δ δ' a2 b2 (a3.symm.trans b3)
theorem To.back {Γ Δ : List (List Str)} {i j : Nat} (h : To g Γ Δ i j) : To g Δ Γ j i := by
  obtain ⟨γ, δ, a1, a2, a3⟩ := h
  exact ⟨δ, γ, a2, a1, a3.symm⟩
theorem To.edge {Γ Δ : List (List Str)} {i j i' j' : Nat} {X : Str} (h : To g Γ Δ i j) (he : EdgeC g Γ i X i') (h' : To g Γ Δ i' j') : EdgeC g Δ j X j' := by
  obtain ⟨γ, δ, a1, a2, a3⟩ := h
  obtain ⟨γ', δ', b1, b2, b3⟩ := h'
  obtain ⟨c, c', e1, e2, e3, e4⟩ := he
  rw [a1] at e1
  obtain rfl : γ = c := by simpa using e1
  rw [b1] at e2
  obtain rfl : γ' = c' := by simpa using e2
  exact ⟨δ, δ', a2, b2, e3.same (a3.snoc X), b3.symm.trans (e4.trans (a3.snoc X))⟩
theorem Full.len {Γ Δ : List (List Str)} (h : Full g Γ) (k : Full g Δ) : Γ.length = Δ.length := by
  have h1 := Few.le ⟨Δ, Nat.le_refl _, k.all⟩ h.toGamOk
  have h2 := Few.le ⟨Γ, Nat.le_refl _, h.all⟩ k.toGamOk
  omega
/-- Every row is reached. -/
theorem GamOk.reach {Γ : List (List Str)} (h : GamOk g Γ) {R : Nat → Prop} (h0 : R 0) (hs : ∀ i X j, R i → EdgeC g Γ i X j → R j) : ∀ j, j < Γ.length → R j := by
  intro j
  induction j using Nat.strongRecOn with
  | _ j ih =>
    intro hj
    rcases h.back j Γ[j] (List.getElem?_eq_getElem hj) with rfl | ⟨i, γ', X, hi, hγ', e⟩
    · exact h0
    · refine hs i X j (ih i hi (by omega)) ⟨γ', Γ[j], hγ', List.getElem?_eq_getElem hj, ?_, ?_⟩
      · rw [← e]; exact h.live _ (List.getElem_mem hj)
      · rw [e]; exact Same.refl _
end Lr
namespace Lr
variable {g : Gram}

inductive Does where
  | shift
  | reduce (p : Nat)
  | accept
  deriving DecidableEq

/-- What the items of a row of symbols say at a terminal. -/
def Says (g : Gram) (γ : List Str) (a : Str) : Does → Prop
  | .shift => isHead g a = false ∧ ∃ i δ, Vld g γ i ∧ i.rest g = a :: δ
  | .reduce p => ∃ A b, g[p]? = some (A, b) ∧ Vld g γ ⟨some p, b.length, a⟩
  | .accept => a = endS ∧ Vld g γ ⟨none, 1, endS⟩
/-- Nowhere two. -/
def Single (g : Gram) : Prop := ∀ γ a x y, Says g γ a x → Says g γ a y → x = y

theorem Run.len {γ r γ' r' : List Str} {ps : List Nat} (h : Run g γ r ps γ' r') : r'.length ≤ r.length := by
  induction h with
  | refl => exact Nat.le_refl _
  | shift _ _ _ _ ih => simp only [List.length_cons]; omega
  | reduce _ _ _ ih => exact ih

/-- Two runs from one place: the one goes on from the other. -/
theorem Run.both (hs : Single g) {γ r γ1 r1 : List Str} {ps1 : List Nat} (h : Run g γ r ps1 γ1 r1) : ∀ {γ2 r2 : List Str} {ps2 : List Nat}, Run g γ r ps2 γ2 r2 →
    (∃ qs, ps2 = ps1 ++ qs ∧ Run g γ1 r1 qs γ2 r2) ∨ (∃ qs, ps1 = ps2 ++ qs ∧ Run g γ2 r2 qs γ1 r1) := by
  induction h with
  | refl => intro γ2 r2 ps2 h2; exact .inl ⟨ps2, rfl, h2⟩
  | @shift γ γ' r r' a ps i δ hi hr ha h ih =>
    intro γ2 r2 ps2 h2
    generalize he : γ = γx at h2
    generalize hr' : a :: r = rx at h2
    cases h2 with
    | refl => subst he hr'; exact .inr ⟨ps, rfl, .shift hi hr ha h⟩
    | shift _ _ _ h2 =>
      subst he
      cases hr'
      exact ih h2
    | @reduce α b _ _ _ A a' p qs hp hv h2 =>
      cases hr'
      subst he
      have := hs _ a .shift (.reduce p) ⟨ha, i, δ, hi, hr⟩ ⟨A, b, hp, hv⟩
      cases this
  | @reduce α b γ' r r' A a p ps hp hv h ih =>
    intro γ2 r2 ps2 h2
    generalize he : α ++ b = γx at h2
    generalize hr' : a :: r = rx at h2
    cases h2 with
    | refl => subst he hr'; exact .inr ⟨p :: ps, rfl, .reduce hp hv h⟩
    | @shift _ _ _ _ _ _ i δ hi hr ha h2 =>
      cases hr'
      subst he
      have := hs _ a .shift (.reduce p) ⟨ha, i, δ, hi, hr⟩ ⟨A, b, hp, hv⟩
      cases this
    | @reduce α' b' _ _ _ A' a' p' qs hp' hv' h2 =>
      cases hr'
      have := hs (α ++ b) a (.reduce p) (.reduce p') ⟨A, b, hp, hv⟩ ⟨A', b', hp', by rw [he]; exact hv'⟩
      cases this
      rw [hp] at hp'
      cases hp'
      have := List.append_cancel_right he
      subst this
      rcases ih h2 with ⟨qs', e, h3⟩ | ⟨qs', e, h3⟩
      · exact .inl ⟨qs', by rw [e]; rfl, h3⟩
      · exact .inr ⟨qs', by rw [e]; rfl, h3⟩

/-- The grammar's symbols: none is the end. -/
structure NoEnd (g : Gram) : Prop where
  head : isHead g endS = false
  body : ∀ p ∈ g, endS ∉ p.2
  start : start g ≠ endS
theorem Pt.sym {n : Nat} {l u : List Str} {a : Str} (h : Pt g n l u a) : a ∈ l ∨ ∃ p ∈ g, a ∈ p.2 := by
  induction h with
  | term => exact .inl (List.mem_cons_self ..)
  | head hm _ ih =>
    rcases ih with h | h
    · exact .inr ⟨_, hm, h⟩
    · exact .inr h
  | skipT _ _ ih => exact ih.imp (List.mem_cons_of_mem _) id
  | skipH _ _ _ ih => exact ih.imp (List.mem_cons_of_mem _) id
theorem NoEnd.pt (hn : NoEnd g) {n : Nat} {u : List Str} (h : Pt g n [Lr.start g] u endS) : False := by
  rcases h.sym with h | ⟨p, hp, h⟩
  · simp at h; exact hn.start h.symm
  · exact hn.body p hp h

/-- What is said is borne out by the start. -/
theorem Says.viable (hn : NoEnd g) {γ u : List Str} {n : Nat} {a : Str} {x : Does} (hd : D g n γ u) (h : Says g γ a x) : (a ≠ endS ∧ ∃ m, Pt g m [start g] u a) ∨ (a = endS ∧ ∃ m, D g m [start g] u) := by
  cases x with
  | shift =>
    obtain ⟨ha, i, δ, hi, hr⟩ := h
    obtain ⟨m, hm⟩ := (hi.ctx hd).1 [] a 0 (by rw [hr]; exact .term ha)
    rw [List.append_nil] at hm
    by_cases e : a = endS
    · subst e; exact absurd hm fun h => hn.pt h
    · exact .inl ⟨e, m, hm⟩
  | reduce p =>
    obtain ⟨A, b, hp, hv⟩ := h
    have hrest : (⟨some p, b.length, a⟩ : Itm).rest g = [] := by simp [Itm.rest, body, hp]
    rcases (hv.ctx hd).2 [] 0 (by rw [hrest]; exact .nil) with ⟨h1, m, h2⟩ | ⟨m, h2⟩
    · rw [List.append_nil] at h2
      exact .inr ⟨h1, m, h2⟩
    · rw [List.append_nil] at h2
      by_cases e : a = endS
      · rw [show (⟨some p, b.length, a⟩ : Itm).look = a from rfl, e] at h2
        exact absurd h2 fun h => hn.pt h
      · exact .inl ⟨e, m, h2⟩
  | accept =>
    obtain ⟨rfl, hv⟩ := h
    have hrest : (⟨none, 1, endS⟩ : Itm).rest g = [] := by simp [Itm.rest, body]
    rcases (hv.ctx hd).2 [] 0 (by rw [hrest]; exact .nil) with ⟨_, m, h2⟩ | ⟨m, h2⟩
    · rw [List.append_nil] at h2
      exact .inr ⟨rfl, m, h2⟩
    · rw [List.append_nil] at h2
      exact absurd h2 fun h => hn.pt h

theorem fst_end : Fst g [] endS endS := .inr ⟨⟨0, .nil⟩, rfl⟩
/-- The run that reads a word. -/
theorem run_word {n : Nat} {w : List Str} (h : D g n [start g] w) : ∃ ps : List Nat, ps.length = n ∧ Run g [] (w ++ [endS]) ps [start g] [endS] := by
  have := Run.sim h (γ := []) (i := ⟨none, 0, endS⟩) (δ := []) (c := endS) (r := []) .init (by simp [Itm.rest, body]) fst_end
  simpa using this
theorem says_accept : Says g [start g] endS .accept := ⟨rfl, by have := Vld.shift (g := g) .init (X := start g) (δ := []) (by simp [Itm.rest, body]); simpa using this⟩

/-- A run of no shift at a place where only accepting is said stands. -/
theorem Run.stuck (hs : Single g) {γ γ' r r' : List Str} {a : Str} {ps : List Nat} (ha : Says g γ a .accept) (h : Run g γ (a :: r) ps γ' r') : ps = [] ∧ γ' = γ ∧ r' = a :: r := by
  generalize hr' : a :: r = rx at h
  cases h with
  | refl => exact ⟨rfl, rfl, rfl⟩
  | @shift _ _ _ _ _ _ i δ hi hr hh h2 =>
    cases hr'
    have := hs _ a .shift .accept ⟨hh, i, δ, hi, hr⟩ ha
    cases this
  | @reduce α b _ _ _ A a' p qs hp hv h2 =>
    cases hr'
    have := hs _ a (.reduce p) .accept ⟨A, b, hp, hv⟩ ha
    cases this
theorem Run.stuckS (hs : Single g) {γ γ' r r' : List Str} {a : Str} {ps : List Nat} (ha : Says g γ a .shift) (h : Run g γ (a :: r) ps γ' r') (hl : r.length < r'.length) : ps = [] := by
  generalize hr' : a :: r = rx at h
  cases h with
  | refl => rfl
  | @shift _ _ _ _ _ _ i δ hi hr hh h2 =>
    cases hr'
    have := h2.len
    omega
  | @reduce α b _ _ _ A a' p qs hp hv h2 =>
    cases hr'
    have := hs _ a (.reduce p) .shift ⟨A, b, hp, hv⟩ ha
    cases this

/-- A parser that can go on has not reduced often. -/
theorem Run.bound (hs : Single g) (hn : NoEnd g) (hP : Productive g) (hL : Lite g) {w γ r : List Str} {a : Str} {ps : List Nat} {x : Does} (hw : w.length ≤ 12) (hwe : endS ∉ w) (h : Run g [] (w ++ [endS]) ps γ (a :: r)) (ha : Says g γ a x) : ps.length ≤ 9300 := by
  obtain ⟨u, he, hd⟩ := h.sound (u := []) (n := 0) .nil
  rw [List.nil_append] at hd
  have hlen : u.length ≤ w.length := by
    have := congrArg List.length he
    simp at this; omega
  rcases ha.viable hn hd with ⟨hne, m, hm⟩ | ⟨rfl, m, hm⟩
  · obtain ⟨m', hm', hpt⟩ := smallP hL a (u.length + 1) (start g) u m (by omega) hm
    obtain ⟨qs, γ', i', δ', h1, h2, h3, h4⟩ := Run.simP hP hpt (γ := []) (δ := []) (i := ⟨none, 0, endS⟩) (r := r) .init (by simp [Itm.rest, body])
    rw [← he] at h2
    have hb : qs.length ≤ 9300 := by
      have : 372 * (2 * u.length + 1) ≤ 372 * 25 := Nat.mul_le_mul_left _ (by omega)
      omega
    rcases h.both hs h2 with ⟨rs, e, _⟩ | ⟨rs, e, h5⟩
    · have := congrArg List.length e
      simp at this; omega
    · have := h5.stuckS hs ⟨hpt.term_of, i', δ', h3, h4⟩ (by simp)
      rw [this] at e
      rw [e]; simpa using hb
  · obtain ⟨m', hm', hd'⟩ := small hL hm
    obtain ⟨qs, h1, h2⟩ := run_word hd'
    have hu : r = [] ∧ u = w := by
      rcases List.append_eq_append_iff.1 he with ⟨t, e1, e2⟩ | ⟨t, e1, e2⟩
      · cases t with
        | nil => simp at e1 e2; exact ⟨e2, e1⟩
        | cons c t =>
          exfalso
          have := congrArg List.length e1
          simp at this; omega
      · cases t with
        | nil => simp at e1 e2; exact ⟨e2, e1.symm⟩
        | cons c t =>
          simp at e2
          exact absurd (by rw [e1, ← e2.1]; simp : endS ∈ w) hwe
    obtain ⟨rfl, rfl⟩ := hu
    have hb : qs.length ≤ 9300 := by
      rw [h1]
      have : 744 * u.length ≤ 744 * 12 := Nat.mul_le_mul_left _ hw
      omega
    rcases h.both hs h2 with ⟨rs, e, _⟩ | ⟨rs, e, h5⟩
    · have := congrArg List.length e
      simp at this; omega
    · have := (h5.stuck hs says_accept).1
      rw [this] at e
      rw [e]; simpa using hb
/-- Where nothing is said, the word is none. -/
theorem Run.none (hs : Single g) {w γ r : List Str} {a : Str} {ps : List Nat} (h : Run g [] (w ++ [endS]) ps γ (a :: r)) (ha : ∀ x, ¬ Says g γ a x) {n : Nat} (hd : D g n [start g] w) : False := by
  obtain ⟨qs, _, h2⟩ := run_word hd
  rcases h.both hs h2 with ⟨rs, _, h5⟩ | ⟨rs, _, h5⟩
  · generalize hr' : a :: r = rx at h5
    generalize hg : [start g] = γx at h5
    cases h5 with
    | refl =>
      subst hg
      simp at hr'
      obtain ⟨rfl, _⟩ := hr'
      exact ha _ says_accept
    | @shift _ _ _ _ _ _ i δ hi hr hh _ => cases hr'; exact ha .shift ⟨hh, i, δ, hi, hr⟩
    | @reduce α b _ _ _ A a' p _ hp hv _ => cases hr'; exact ha (.reduce p) ⟨A, b, hp, hv⟩
  · obtain ⟨e1, e2, e3⟩ := h5.stuck hs says_accept
    simp at e3
    obtain ⟨rfl, _⟩ := e3
    exact ha .accept (by rw [e2]; exact says_accept)
/-- Where accepting is said, the word is one. -/
theorem Run.accepted {w γ r : List Str} {a : Str} {ps : List Nat} (hw : endS ∉ w) (h : Run g [] (w ++ [endS]) ps γ (a :: r)) (ha : Says g γ a .accept) : D g ps.length [start g] w ∧ γ = [start g] ∧ a = endS ∧ r = [] := by
  obtain ⟨rfl, hv⟩ := ha
  have hz := (hv.zero rfl).1
  simp at hz
  obtain ⟨u, he, hd⟩ := h.sound (u := []) (n := 0) .nil
  have hu : r = [] ∧ u = w := by
    rcases List.append_eq_append_iff.1 he with ⟨t, e1, e2⟩ | ⟨t, e1, e2⟩
    · cases t with
      | nil => simp at e1 e2; exact ⟨e2, e1⟩
      | cons c t =>
        have := congrArg List.length e2
        simp at this
    · cases t with
      | nil => simp at e1 e2; exact ⟨e2, e1.symm⟩
      | cons c t =>
        simp at e2
        exact absurd (by rw [e1, ← e2.1]; simp : endS ∈ w) hw
  obtain ⟨rfl, rfl⟩ := hu
  subst hz
  exact ⟨by simpa using hd, rfl, rfl, rfl⟩

/-! ### The reductions are a rightmost derivation -/
/-- The last nonterminal of a row, in its place. -/
inductive Der (g : Gram) : List Str → List Nat → List Str → Prop
  | done {l : List Str} : Der g l [] l
  | step {α b t l' : List Str} {A : Str} {p : Nat} {ps : List Nat} : g[p]? = some (A, b) → (∀ x ∈ t, isHead g x = false) → Der g (α ++ b ++ t) ps l' → Der g (α ++ A :: t) (p :: ps) l'
theorem Der.trans {a b c : List Str} {ps qs : List Nat} (h : Der g a ps b) (k : Der g b qs c) : Der g a (ps ++ qs) c := by
  induction h with
  | done => exact k
  | step h1 h2 _ ih => exact .step h1 h2 (ih k)
/-- A run, read from its end. -/
theorem Run.der {γ r γ' r' : List Str} {ps : List Nat} (h : Run g γ r ps γ' r') : ∀ {t' : List Str}, r' = t' ++ [endS] → (∀ x ∈ r, isHead g x = false) → ∃ t, r = t ++ [endS] ∧ Der g (γ' ++ t') ps.reverse (γ ++ t) := by
  induction h with
  | refl => intro t' e _; exact ⟨t', e, .done⟩
  | @shift γ γ' r r' a ps i δ hi hr ha h ih =>
    intro t' e ht
    obtain ⟨t, e1, h2⟩ := ih e (fun x hx => ht x (List.mem_cons_of_mem _ hx))
    exact ⟨a :: t, by rw [e1]; rfl, by simpa using h2⟩
  | @reduce α b γ' r r' A a p ps hp hv h ih =>
    intro t' e ht
    obtain ⟨t, e1, h2⟩ := ih e ht
    refine ⟨t, e1, ?_⟩
    rw [List.reverse_cons]
    have hstep : Der g ((α ++ [A]) ++ t) [p] (α ++ b ++ t) := by
      have := Der.step (α := α) (b := b) (t := t) (l' := α ++ b ++ t) hp (fun x hx => ht x (by rw [e1]; simp [hx])) .done
      simpa using this
    exact h2.trans hstep
end Lr
namespace Lr
variable {g : Gram}

/-- All that may stand behind an item. -/
def looksU (g : Gram) : List Str := endS :: g.flatMap (·.2)
def itemsU (g : Gram) : List Itm := (none :: (List.range g.length).map some).flatMap fun p => (List.range 5).flatMap fun d => (looksU g).map fun c => ⟨p, d, c⟩
theorem fst_look {l : List Str} {b c : Str} (h : Fst g l b c) : c ∈ l ∨ (∃ p ∈ g, c ∈ p.2) ∨ c = b := by
  rcases h with ⟨n, h⟩ | ⟨_, rfl⟩
  · rcases h.sym with h | h
    · exact .inl h
    · exact .inr (.inl h)
  · exact .inr (.inr rfl)
theorem Vld.look {γ : List Str} {i : Itm} (h : Vld g γ i) : i.look ∈ looksU g := by
  induction h with
  | init => exact List.mem_cons_self ..
  | @close γ i B c b δ n h1 hr hn hf ih =>
    rcases fst_look hf with h | ⟨p, hp, h⟩ | h
    · have hB : c ∈ body g i.prod := by
        have : c ∈ (body g i.prod).drop i.dot := by rw [show (body g i.prod).drop i.dot = B :: δ from hr]; exact List.mem_cons_of_mem _ h
        exact List.mem_of_mem_drop this
      cases hp : i.prod with
      | none =>
        -- behind the start nothing stands
        rw [hp] at hB
        unfold Itm.rest at hr
        rw [hp] at hr
        exfalso
        have hlen := congrArg List.length hr
        simp [body] at hlen
        have hδ : δ = [] := List.eq_nil_of_length_eq_zero (by omega)
        rw [hδ] at h; cases h
      | some m =>
        rw [hp] at hB
        change c ∈ (g[m]?.getD ([], [])).2 at hB
        cases hm : g[m]? with
        | none => rw [hm] at hB; simp at hB
        | some q =>
          rw [hm] at hB
          exact List.mem_cons_of_mem _ (List.mem_flatMap.2 ⟨q, List.mem_of_getElem? hm, by simpa using hB⟩)
    · exact List.mem_cons_of_mem _ (List.mem_flatMap.2 ⟨p, hp, h⟩)
    · rw [h]; exact ih
  | shift _ _ ih => exact ih
theorem Vld.inU (hb : ∀ p ∈ g, p.2.length ≤ 4) {γ : List Str} {i : Itm} (h : Vld g γ i) : i ∈ itemsU g := by
  unfold itemsU
  refine List.mem_flatMap.2 ⟨i.prod, ?_, List.mem_flatMap.2 ⟨i.dot, ?_, List.mem_map.2 ⟨i.look, h.look, rfl⟩⟩⟩
  · cases hp : i.prod with
    | none => exact List.mem_cons_self ..
    | some n => exact List.mem_cons_of_mem _ (List.mem_map.2 ⟨n, List.mem_range.2 (h.lt hp), rfl⟩)
  · have h1 := h.rest_le
    have h2 : (body g i.prod).length ≤ 4 := by
      cases hp : i.prod with
      | none => simp [body]
      | some n =>
        have hn := h.lt hp
        have e : body g (some n) = g[n].2 := by show (g[n]?.getD ([], [])).2 = _; rw [List.getElem?_eq_getElem hn]; rfl
        rw [e]
        exact hb _ (List.getElem_mem hn)
    exact List.mem_range.2 (by omega)
theorem looksU_len (hl : g.length ≤ 12) (hb : ∀ p ∈ g, p.2.length ≤ 4) : (looksU g).length ≤ 49 := by
  have : ∀ g : Gram, (∀ p ∈ g, p.2.length ≤ 4) → (g.flatMap (·.2)).length ≤ 4 * g.length := by
    intro g
    induction g with
    | nil => intro _; simp
    | cons p g ih =>
      intro h
      have h1 := ih (fun q hq => h q (List.mem_cons_of_mem _ hq))
      have h2 := h p (List.mem_cons_self ..)
      rw [List.flatMap_cons, List.length_append, List.length_cons]
      omega
  have := this g hb
  simp only [looksU, List.length_cons]
  omega
theorem flatMap_len {α β : Type} (f : α → List β) (n : Nat) : ∀ l : List α, (∀ a ∈ l, (f a).length = n) → (l.flatMap f).length = l.length * n
  | [], _ => by simp
  | a :: l, h => by
    rw [List.flatMap_cons, List.length_append, h a (List.mem_cons_self ..), flatMap_len f n l (fun b hb => h b (List.mem_cons_of_mem _ hb)), List.length_cons, Nat.succ_mul]
    omega
theorem itemsU_len (hl : g.length ≤ 12) (hb : ∀ p ∈ g, p.2.length ≤ 4) : (itemsU g).length ≤ 3185 := by
  have h1 := looksU_len hl hb
  unfold itemsU
  rw [flatMap_len _ (5 * (looksU g).length)]
  · simp
    have h2 : (g.length + 1) * (5 * (looksU g).length) ≤ 13 * (5 * 49) := Nat.mul_le_mul (by omega) (Nat.mul_le_mul_left _ h1)
    omega
  · intro p _
    rw [flatMap_len _ (looksU g).length]
    · simp
    · intro d _; simp
theorem items_le (hl : g.length ≤ 12) (hb : ∀ p ∈ g, p.2.length ≤ 4) {γ : List Str} {out : List Itm} (hn : out.Nodup) (h : ∀ i ∈ out, Vld g γ i) : out.length ≤ 3185 :=
  Nat.le_trans (nodup_le_of hn fun i hi => (h i hi).inU hb) (itemsU_len hl hb)

/-- Closing a list of items: what has been put in, and up to which place all that they lead to is in. -/
structure ClsIn (g : Gram) (γ : List Str) (base out : List Itm) (k : Nat) : Prop where
  nodup : out.Nodup
  sub : ∀ j ∈ out, Vld g γ j
  pre : ∀ j ∈ base, j ∈ out
  done : ∀ i ∈ out.take k, ∀ j, Succ g i j → j ∈ out
/-- The items begin a row's. -/
def Base (g : Gram) (γ : List Str) (base : List Itm) : Prop := base.Nodup ∧ ∀ j, Vld g γ j ↔ Cls g (· ∈ base) j
theorem ClsIn.init {γ : List Str} {base : List Itm} (h : Base g γ base) : ClsIn g γ base base 0 :=
  ⟨h.1, fun j hj => (h.2 j).2 (.base hj), fun _ h => h, by simp⟩
theorem ClsIn.add {γ : List Str} {base out : List Itm} {k : Nat} (h : ClsIn g γ base out k) (hk : k ≤ out.length) {i x : Itm} (hi : i ∈ out) (hs : Succ g i x) (hx : x ∉ out) : ClsIn g γ base (out ++ [x]) k := by
  refine ⟨?_, fun j hj => ?_, fun j hj => List.mem_append.2 (.inl (h.pre j hj)), fun i hi j hj => ?_⟩
  · rw [List.nodup_append]
    refine ⟨h.nodup, by simp, ?_⟩
    intro a ha b hb e
    simp at hb
    subst hb; subst e
    exact hx ha
  · rcases List.mem_append.1 hj with hj | hj
    · exact h.sub j hj
    · simp at hj; subst hj; exact (h.sub i hi).succ hs
  · rw [List.take_append_of_le_length hk] at hi
    exact List.mem_append.2 (.inl (h.done i hi j hj))
theorem ClsIn.next {γ : List Str} {base out : List Itm} {k : Nat} (h : ClsIn g γ base out k) (hk : k < out.length) (hd : ∀ j, Succ g out[k] j → j ∈ out) : ClsIn g γ base out (k + 1) := by
  refine ⟨h.nodup, h.sub, h.pre, fun i hi j hj => ?_⟩
  rw [List.take_succ_eq_append_getElem hk] at hi
  rcases List.mem_append.1 hi with hi | hi
  · exact h.done i hi j hj
  · simp at hi; subst hi; exact hd j hj
theorem ClsIn.all {γ : List Str} {base out : List Itm} {k : Nat} (hB : Base g γ base) (h : ClsIn g γ base out k) (hk : out.length ≤ k) : out.Nodup ∧ ∀ j, j ∈ out ↔ Vld g γ j := by
  refine ⟨h.nodup, fun j => ⟨h.sub j, fun hj => ?_⟩⟩
  rw [hB.2] at hj
  induction hj with
  | base hb => exact h.pre _ hb
  | close _ hs ih => exact h.done _ (by rw [List.take_of_length_le hk]; exact ih) _ hs
theorem base_nil : Base g [] [⟨none, 0, endS⟩] := ⟨by simp, fun j => by rw [vld_nil]; simp only [List.mem_singleton]⟩
/-- The items behind a symbol, from a row's items. -/
def shfL (g : Gram) (X : Str) (l : List Itm) : List Itm := (l.filter fun i => decide ((i.rest g)[0]? = some X)).map fun i => ⟨i.prod, i.dot + 1, i.look⟩
theorem rest_head {i : Itm} {X : Str} : (i.rest g)[0]? = some X ↔ ∃ δ, i.rest g = X :: δ := by
  cases h : i.rest g with
  | nil => simp
  | cons Y δ => simp
theorem base_shf {γ : List Str} {l : List Itm} (hn : l.Nodup) (hl : ∀ j, j ∈ l ↔ Vld g γ j) (X : Str) : Base g (γ ++ [X]) (shfL g X l) := by
  refine ⟨?_, fun j => ?_⟩
  · unfold shfL List.Nodup
    rw [List.pairwise_map]
    refine List.Pairwise.imp ?_ (List.Pairwise.filter _ hn)
    intro a b hab e
    apply hab
    cases a; cases b
    simp at e
    obtain ⟨rfl, rfl, rfl⟩ := e
    rfl
  · rw [vld_snoc]
    have e : ∀ j, Shf g (Vld g γ) X j ↔ j ∈ shfL g X l := fun j => by
      unfold shfL Shf
      rw [List.mem_map]
      constructor
      · rintro ⟨i, δ, h1, h2, rfl⟩
        exact ⟨i, List.mem_filter.2 ⟨(hl i).2 h1, by simpa using rest_head.2 ⟨δ, h2⟩⟩, rfl⟩
      · rintro ⟨i, hi, rfl⟩
        obtain ⟨h1, h2⟩ := List.mem_filter.1 hi
        obtain ⟨δ, h3⟩ := rest_head.1 (by simpa using h2)
        exact ⟨i, δ, (hl i).1 h1, h3, rfl⟩
    exact ⟨Cls.mono fun i hi => (e i).1 hi, Cls.mono fun i hi => (e i).2 hi⟩
theorem live_shf {γ : List Str} {l : List Itm} (hl : ∀ j, j ∈ l ↔ Vld g γ j) {X : Str} : Live g (γ ++ [X]) ↔ shfL g X l ≠ [] := by
  constructor
  · intro h e
    obtain ⟨i, δ, h1, h2⟩ := h.shf
    have : (⟨i.prod, i.dot + 1, i.look⟩ : Itm) ∈ shfL g X l := List.mem_map.2 ⟨i, List.mem_filter.2 ⟨(hl i).2 h1, by simpa using rest_head.2 ⟨δ, h2⟩⟩, rfl⟩
    rw [e] at this; cases this
  · intro h
    obtain ⟨j, hj⟩ := List.exists_mem_of_ne_nil _ h
    unfold shfL at hj
    obtain ⟨i, hi, rfl⟩ := List.mem_map.1 hj
    obtain ⟨h1, h2⟩ := List.mem_filter.1 hi
    obtain ⟨δ, h3⟩ := rest_head.1 (by simpa using h2)
    exact live_snoc ((hl i).1 h1) h3
end Lr
namespace Lr
variable {g : Gram}
abbrev Edg := Nat × Str × Nat

/-- Sorted rows of the same things are one row. -/
theorem sorted_uniq {α : Type} {r : α → α → Prop} (irr : ∀ x, ¬ r x x) (asy : ∀ x y, r x y → ¬ r y x) : ∀ {l m : List α}, l.Pairwise r → m.Pairwise r → (∀ x, x ∈ l ↔ x ∈ m) → l = m
  | [], [], _, _, _ => rfl
  | [], y :: m, _, _, h => by have := (h y).2 (List.mem_cons_self ..); cases this
  | x :: l, [], _, _, h => by have := (h x).1 (List.mem_cons_self ..); cases this
  | x :: l, y :: m, hl, hm, h => by
    rw [List.pairwise_cons] at hl hm
    have e : x = y := by
      rcases List.mem_cons.1 ((h x).1 (List.mem_cons_self ..)) with e | h1
      · exact e
      · rcases List.mem_cons.1 ((h y).2 (List.mem_cons_self ..)) with e | h2
        · exact e.symm
        · exact absurd (hl.1 y h2) (asy _ _ (hm.1 x h1))
    subst e
    rw [sorted_uniq irr asy hl.2 hm.2 fun z => ?_]
    constructor
    · intro hz
      rcases List.mem_cons.1 ((h z).1 (List.mem_cons_of_mem _ hz)) with e | h1
      · subst e; exact absurd (hl.1 z hz) (irr z)
      · exact h1
    · intro hz
      rcases List.mem_cons.1 ((h z).2 (List.mem_cons_of_mem _ hz)) with e | h1
      · subst e; exact absurd (hm.1 z hz) (irr z)
      · exact h1

/-- What makes two systems of states alike. -/
structure AlikeH (N : Nat) (φ : Nat → Nat) (a b : List (List Itm)) (e f : List Edg) : Prop where
  pos : 0 < N
  alen : a.length = N
  blen : b.length = N
  elen : e.length = f.length
  lt : ∀ i, i < N → φ i < N
  sets : ∀ i, i < N → a[i]? = b[φ i]?
  zero : φ 0 = 0
  fr : ∀ x ∈ e, x.1 < N ∧ x.2.2 < N
  some : ∀ x ∈ e, ∃ y ∈ f, y.1 = φ x.1 ∧ y.2.1 = x.2.1
  to : ∀ x ∈ e, ∀ y ∈ f, y.1 = φ x.1 → y.2.1 = x.2.1 → y.2.2 = φ x.2.2
  reach : ∀ R : Nat → Prop, R 0 → (∀ x ∈ e, R x.1 → R x.2.2) → ∀ i, i < N → R i
/-- The states of a grammar, told: rows that stand for them, their items, their edges. -/
structure Told (g : Gram) (Γ : List (List Str)) (a : List (List Itm)) (e : List Edg) : Prop where
  full : Full g Γ
  len : a.length = Γ.length
  items : ∀ (k : Nat) (γ : List Str) (l : List Itm), Γ[k]? = some γ → a[k]? = some l → ∀ i, i ∈ l ↔ Vld g γ i
  edges : ∀ x : Edg, x ∈ e ↔ EdgeC g Γ x.1 x.2.1 x.2.2
  enod : e.Nodup
theorem EdgeC.lt {Γ : List (List Str)} {k j : Nat} {X : Str} (h : EdgeC g Γ k X j) : k < Γ.length ∧ j < Γ.length := by
  obtain ⟨γ, γ', h1, h2, _⟩ := h
  exact ⟨(List.getElem?_eq_some_iff.1 h1).1, (List.getElem?_eq_some_iff.1 h2).1⟩
theorem To.lt {Γ Δ : List (List Str)} {i j : Nat} (h : To g Γ Δ i j) : i < Γ.length ∧ j < Δ.length := by
  obtain ⟨γ, γ', h1, h2, _⟩ := h
  exact ⟨(List.getElem?_eq_some_iff.1 h1).1, (List.getElem?_eq_some_iff.1 h2).1⟩
theorem edges_le {Γ Δ : List (List Str)} (hΓ : Full g Γ) (hΔ : Full g Δ) {e f : List Edg} (he : ∀ x : Edg, x ∈ e ↔ EdgeC g Γ x.1 x.2.1 x.2.2) (hf : ∀ x : Edg, x ∈ f ↔ EdgeC g Δ x.1 x.2.1 x.2.2) (hn : e.Nodup) : e.length ≤ f.length := by
  have hex : ∀ i, ∃ j, i < Γ.length → To g Γ Δ i j := fun i => by
    by_cases h : i < Γ.length
    · obtain ⟨j, hj⟩ := hΓ.to hΔ h
      exact ⟨j, fun _ => hj⟩
    · exact ⟨0, fun h' => absurd h' h⟩
  let φ : Nat → Nat := fun i => Classical.choose (hex i)
  have hφ : ∀ i, i < Γ.length → To g Γ Δ i (φ i) := fun i => Classical.choose_spec (hex i)
  have := nodup_le_of (V := e.map fun x => (φ x.1, x.2.1, φ x.2.2)) (L := f) (by
    unfold List.Nodup
    rw [List.pairwise_map]
    refine List.Pairwise.imp_of_mem ?_ hn
    intro x y hx hy hxy heq
    apply hxy
    have hx1 := ((he x).1 hx).lt
    have hy1 := ((he y).1 hy).lt
    obtain ⟨x1, x2, x3⟩ := x
    obtain ⟨y1, y2, y3⟩ := y
    simp only [Prod.mk.injEq] at heq hx1 hy1 ⊢
    obtain ⟨e1, e2, e3⟩ := heq
    have k1 := (hφ x1 hx1.1).back
    rw [e1] at k1
    have k3 := (hφ x3 hx1.2).back
    rw [e3] at k3
    exact ⟨To.uniq hΓ.toGamOk k1 (hφ y1 hy1.1).back, e2, To.uniq hΓ.toGamOk k3 (hφ y3 hy1.2).back⟩) (fun z hz => by
    obtain ⟨x, hx, rfl⟩ := List.mem_map.1 hz
    have hx1 := ((he x).1 hx).lt
    exact (hf _).2 ((hφ _ hx1.1).edge ((he x).1 hx) (hφ _ hx1.2)))
  simpa using this
theorem Told.alike {Γ Δ : List (List Str)} {a b : List (List Itm)} {e f : List Edg} (h : Told g Γ a e) (k : Told g Δ b f) {r : Itm → Itm → Prop} (irr : ∀ x, ¬ r x x) (asy : ∀ x y, r x y → ¬ r y x)
    (ha : ∀ l ∈ a, l.Pairwise r) (hb : ∀ l ∈ b, l.Pairwise r) : ∃ φ, AlikeH Γ.length φ a b e f := by
  have hex : ∀ i, ∃ j, i < Γ.length → To g Γ Δ i j := fun i => by
    by_cases hi : i < Γ.length
    · obtain ⟨j, hj⟩ := h.full.to k.full hi
      exact ⟨j, fun _ => hj⟩
    · exact ⟨0, fun h' => absurd h' hi⟩
  let φ : Nat → Nat := fun i => Classical.choose (hex i)
  have hφ : ∀ i, i < Γ.length → To g Γ Δ i (φ i) := fun i => Classical.choose_spec (hex i)
  have hlen := h.full.len k.full
  have hz := (List.getElem?_eq_some_iff.1 h.full.zero).1
  have hdn : ∀ x ∈ e, x.1 < Γ.length ∧ x.2.2 < Γ.length := fun x hx => ((h.edges x).1 hx).lt
  refine ⟨φ, ⟨hz, h.len, by rw [k.len, hlen], ?_, fun i hi => by rw [hlen]; exact (hφ i hi).lt.2, fun i hi => ?_, ?_, hdn, fun x hx => ?_, fun x hx y hy e1 e2 => ?_, fun R h0 hs i hi => ?_⟩⟩
  · exact Nat.le_antisymm (edges_le h.full k.full h.edges k.edges h.enod) (edges_le k.full h.full k.edges h.edges k.enod)
  · obtain ⟨γ, δ, h1, h2, h3⟩ := hφ i hi
    have hia : i < a.length := by rw [h.len]; exact hi
    have hjb : φ i < b.length := by rw [k.len]; exact (List.getElem?_eq_some_iff.1 h2).1
    have ea := List.getElem?_eq_getElem hia
    have eb := List.getElem?_eq_getElem hjb
    rw [ea, eb]
    congr 1
    refine sorted_uniq irr asy (ha _ (List.getElem_mem hia)) (hb _ (List.getElem_mem hjb)) fun x => ?_
    rw [h.items i γ _ h1 ea, k.items (φ i) δ _ h2 eb]
    exact h3 x
  · exact To.uniq k.full.toGamOk (hφ 0 hz) ⟨[], [], h.full.zero, k.full.zero, Same.refl _⟩
  · obtain ⟨l1, l2⟩ := hdn x hx
    exact ⟨(φ x.1, x.2.1, φ x.2.2), (k.edges _).2 ((hφ _ l1).edge ((h.edges x).1 hx) (hφ _ l2)), rfl, rfl⟩
  · obtain ⟨l1, l2⟩ := hdn x hx
    have h1 := (hφ _ l1).edge ((h.edges x).1 hx) (hφ _ l2)
    have h2 := (k.edges y).1 hy
    rw [e1, e2] at h2
    exact EdgeC.uniq k.full.toGamOk h2 h1
  · exact h.full.reach h0 (fun i X j hi he => hs (i, X, j) ((h.edges (i, X, j)).2 he) hi) i hi

/-- How far the comparison has come. -/
structure AlikeI (N : Nat) (φ : Nat → Nat) (e : List Edg) (of : List Int) (row : List Nat) (at_ : Nat) : Prop where
  olen : of.length = N
  nodup : row.Nodup
  lt : ∀ i ∈ row, i < N
  zero : 0 ∈ row
  set : ∀ i ∈ row, of[i]? = some (φ i : Int)
  free : ∀ i, i < N → i ∉ row → of[i]? = some (-1)
  done : ∀ i ∈ row.take at_, ∀ x ∈ e, x.1 = i → x.2.2 ∈ row
theorem AlikeI.put {N : Nat} {φ : Nat → Nat} {e : List Edg} {of : List Int} {row : List Nat} {k : Nat} (h : AlikeI N φ e of row k) (hk : k ≤ row.length) {j : Nat} (hj : j < N) (hn : j ∉ row) : AlikeI N φ e (of.set j (φ j)) (row ++ [j]) k := by
  refine ⟨by rw [List.length_set]; exact h.olen, ?_, fun i hi => ?_, List.mem_append.2 (.inl h.zero), fun i hi => ?_, fun i hi hni => ?_, fun i hi x hx e1 => ?_⟩
  · rw [List.nodup_append]
    refine ⟨h.nodup, by simp, ?_⟩
    intro a ha b hb e
    simp at hb
    subst hb; subst e
    exact hn ha
  · rcases List.mem_append.1 hi with hi | hi
    · exact h.lt i hi
    · simp at hi; subst hi; exact hj
  · rcases List.mem_append.1 hi with hi | hi
    · rw [List.getElem?_set_ne (by intro e; subst e; exact hn hi)]
      exact h.set i hi
    · simp at hi; subst hi
      rw [List.getElem?_set_self (by rw [h.olen]; exact hj)]
  · have h1 : i ∉ row := fun h => hni (List.mem_append.2 (.inl h))
    have h2 : i ≠ j := fun e => hni (by rw [e]; simp)
    rw [List.getElem?_set_ne (fun e => h2 e.symm)]
    exact h.free i hi h1
  · rw [List.take_append_of_le_length hk] at hi
    exact List.mem_append.2 (.inl (h.done i hi x hx e1))
theorem AlikeI.next {N : Nat} {φ : Nat → Nat} {e : List Edg} {of : List Int} {row : List Nat} {k : Nat} (h : AlikeI N φ e of row k) (hk : k < row.length) (hd : ∀ x ∈ e, x.1 = row[k] → x.2.2 ∈ row) : AlikeI N φ e of row (k + 1) := by
  refine ⟨h.olen, h.nodup, h.lt, h.zero, h.set, h.free, fun i hi x hx e1 => ?_⟩
  rw [List.take_succ_eq_append_getElem hk] at hi
  rcases List.mem_append.1 hi with hi | hi
  · exact h.done i hi x hx e1
  · simp at hi; subst hi; exact hd x hx e1
theorem AlikeI.le {N : Nat} {φ : Nat → Nat} {e : List Edg} {of : List Int} {row : List Nat} {k : Nat} (h : AlikeI N φ e of row k) : row.length ≤ N := by
  have := nodup_le_of (L := List.range N) h.nodup (fun i hi => List.mem_range.2 (h.lt i hi))
  simpa using this
theorem AlikeI.end {N : Nat} {φ : Nat → Nat} {a b : List (List Itm)} {e f : List Edg} {of : List Int} {row : List Nat} {k : Nat} (h : AlikeI N φ e of row k) (H : AlikeH N φ a b e f) (hk : row.length ≤ k) : row.length = N := by
  have h1 := h.le
  have h2 := nodup_le_of (V := List.range N) (L := row) List.nodup_range (fun i hi => by
    refine H.reach (fun i => i ∈ row) h.zero (fun x hx h0 => ?_) i (List.mem_range.1 hi)
    exact h.done x.1 (by rw [List.take_of_length_le hk]; exact h0) x hx rfl)
  simp at h2
  omega
theorem AlikeI.init {N : Nat} {φ : Nat → Nat} {e : List Edg} (h0 : 0 < N) (hz : φ 0 = 0) : AlikeI N φ e ((List.replicate N (-1 : Int)).set 0 0) [0] 0 := by
  refine ⟨by simp, by simp, by simpa using h0, by simp, fun i hi => ?_, fun i hi hn => ?_, by simp⟩
  · simp at hi; subst hi
    rw [List.getElem?_set_self (by simpa using h0), hz]; rfl
  · simp at hn
    rw [List.getElem?_set_ne (fun e => hn e.symm)]
    simp [hi]
end Lr
namespace Go.Proofs.YtdejcdmgcckmoaaGreatDoor
open Lr

def letterB (c : UInt8) : Bool := (decide (97 ≤ c.toNat) && decide (c.toNat ≤ 122)) || (decide (65 ≤ c.toNat) && decide (c.toNat ≤ 90))
def symbolOkB (s : Str) : Bool := s.all letterB && decide (0 < s.length) && decide (s.length ≤ 4)
def greatB : Str → Bool
  | [] => false
  | c :: _ => decide (65 ≤ c.toNat) && decide (c.toNat ≤ 90)
def has (l : List Str) (s : Str) : Bool := l.contains s
theorem has_iff {l : List Str} {s : Str} : has l s = true ↔ s ∈ l := by simp [has]
theorem has_false {l : List Str} {s : Str} : has l s = false ↔ s ∉ l := by simp [has]

def addTo (out : List Str) (s : Str) : List Str := if has out s then out else out ++ [s]
def headsF (g : Gram) : List Str := g.foldl (fun out p => addTo out p.1) []

theorem foldl_take {α β : Type} (f : β → α → β) (x : β) (l : List α) (d : α) {k : Nat} (h : k < l.length) : (l.take (k + 1)).foldl f x = f ((l.take k).foldl f x) (l.getD k d) := by
  rw [List.take_succ_eq_append_getElem h, List.foldl_append]
  simp [List.getD, h]

theorem addTo_len (out : List Str) (s : Str) : (addTo out s).length ≤ out.length + 1 := by
  unfold addTo; split <;> simp
theorem headsF_len (g : Gram) : (headsF g).length ≤ g.length := by
  have : ∀ (g : Gram) (out : List Str), (g.foldl (fun out p => addTo out p.1) out).length ≤ out.length + g.length := by
    intro g
    induction g with
    | nil => intro out; simp
    | cons p g ih => intro out; have := ih (addTo out p.1); have := addTo_len out p.1; simp at *; omega
  simpa [headsF] using this g []

def idxOf (s : Str) : List Str → Nat → Int
  | [], _ => -1
  | x :: l, k => if s == x then (k : Int) else idxOf s l (k + 1)
theorem idxOf_drop {s : Str} {l : List Str} {k : Nat} (h : k < l.length) : idxOf s (l.drop k) k = if s == l[k] then (k : Int) else idxOf s (l.drop (k + 1)) (k + 1) := by
  rw [List.drop_eq_getElem_cons h, idxOf]
theorem idxOf_end {s : Str} {l : List Str} {k : Nat} (h : ¬ k < l.length) : idxOf s (l.drop k) k = -1 := by
  rw [List.drop_of_length_le (by omega), idxOf]
theorem idxOf_ge {s : Str} : ∀ {l : List Str} {k : Nat}, decide (0 ≤ idxOf s l k) = has l s
  | [], k => by simp [idxOf, has]
  | x :: l, k => by
    rw [idxOf]
    by_cases h : s == x
    · rw [if_pos h]; simp at h; simp [h, has]
    · rw [if_neg h, idxOf_ge]; simp at h; simp [h, has]

/-- The place of the first element of which p holds. -/
def idxBy {α : Type} (p : α → Bool) : List α → Nat → Int
  | [], _ => -1
  | x :: l, k => if p x then (k : Int) else idxBy p l (k + 1)
theorem idxBy_drop {α : Type} {p : α → Bool} {l : List α} {k : Nat} (h : k < l.length) : idxBy p (l.drop k) k = if p l[k] then (k : Int) else idxBy p (l.drop (k + 1)) (k + 1) := by
  rw [List.drop_eq_getElem_cons h, idxBy]
theorem idxBy_end {α : Type} {p : α → Bool} {l : List α} {k : Nat} (h : ¬ k < l.length) : idxBy p (l.drop k) k = -1 := by
  rw [List.drop_of_length_le (by omega), idxBy]
theorem idxBy_ge {α : Type} {p : α → Bool} : ∀ {l : List α} {k : Nat}, decide (0 ≤ idxBy p l k) = l.any p
  | [], k => by simp [idxBy]
  | x :: l, k => by
    rw [idxBy]
    by_cases h : p x
    · rw [if_pos h]; simp [h]
    · rw [if_neg h, idxBy_ge]; simp [h]
end Go.Proofs.YtdejcdmgcckmoaaGreatDoor
namespace Go.Proofs.YtdejcdmgcckmoaaGreatDoor
open Lr

/-- What the reference's test of a grammar asks of its text. -/
structure Sm (g : Gram) : Prop where
  pos : 0 < g.length
  len : g.length ≤ 12
  body : ∀ p ∈ g, p.2.length ≤ 4
  head : ∀ p ∈ g, symbolOkB p.1 = true ∧ greatB p.1 = true
  sym : ∀ p ∈ g, ∀ s ∈ p.2, symbolOkB s = true
  great : ∀ p ∈ g, ∀ s ∈ p.2, greatB s = true → isHead g s = true
  nodup : g.Nodup

theorem symbolOk_pos {s : Str} (h : symbolOkB s = true) : 0 < s.length := by simp only [symbolOkB, Bool.and_eq_true, decide_eq_true_eq] at h; exact h.1.2
theorem symbolOk_le {s : Str} (h : symbolOkB s = true) : s.length ≤ 4 := by simp [symbolOkB] at h; exact h.2
theorem symbolOk_letter {s : Str} (h : symbolOkB s = true) : ∀ c ∈ s, letterB c = true := by simp [symbolOkB] at h; exact h.1.1
theorem Sm.head_pos {g : Gram} (h : Sm g) {p : Prd} (hp : p ∈ g) : 0 < p.1.length := symbolOk_pos (h.head p hp).1
theorem Sm.sym_pos {g : Gram} (h : Sm g) {p : Prd} (hp : p ∈ g) {s : Str} (hs : s ∈ p.2) : 0 < s.length := symbolOk_pos (h.sym p hp s hs)
/-- In a body a symbol is a head just where it begins with a great letter. -/
theorem Sm.great_iff {g : Gram} (h : Sm g) {p : Prd} (hp : p ∈ g) {s : Str} (hs : s ∈ p.2) : greatB s = isHead g s := by
  cases hg : greatB s with
  | true => exact (h.great p hp s hs hg).symm
  | false =>
    cases hh : isHead g s with
    | false => rfl
    | true =>
      obtain ⟨b, hb⟩ := isHead_iff.1 hh
      have := (h.head _ hb).2
      simp only at this
      rw [hg] at this
      cases this

def addT (out : List Str) (s : Str) : List Str := if !greatB s && !has out s then out ++ [s] else out
def terminalsF (g : Gram) : List Str := g.foldl (fun out p => p.2.foldl addT out) []
theorem addT_len (out : List Str) (s : Str) : (addT out s).length ≤ out.length + 1 := by unfold addT; split <;> simp
theorem addTs_len (l : List Str) : ∀ out, (l.foldl addT out).length ≤ out.length + l.length := by
  induction l with
  | nil => intro out; simp
  | cons s l ih => intro out; have := ih (addT out s); have := addT_len out s; simp at *; omega
theorem terminals_len {g : Gram} (h : ∀ p ∈ g, p.2.length ≤ 4) : (terminalsF g).length ≤ 4 * g.length := by
  have : ∀ (g : Gram) (out : List Str), (∀ p ∈ g, p.2.length ≤ 4) → (g.foldl (fun out p => p.2.foldl addT out) out).length ≤ out.length + 4 * g.length := by
    intro g
    induction g with
    | nil => intro out _; simp
    | cons p g ih =>
      intro out h
      have h1 := ih (p.2.foldl addT out) (fun q hq => h q (by simp [hq]))
      have h2 := addTs_len p.2 out
      have h3 := h p (by simp)
      simp at *; omega
  simpa [terminalsF] using this g [] h
theorem mem_take {α : Type} {l : List α} {k : Nat} {x : α} (h : x ∈ l.take k) : x ∈ l := List.mem_of_mem_take h
theorem terminals_part {g : Gram} (h : ∀ p ∈ g, p.2.length ≤ 4) (hl : g.length ≤ 12) (k j : Nat) (hk : k < g.length) : ((g[k].2.take j).foldl addT (terminalsF (g.take k))).length ≤ 52 := by
  have h1 := addTs_len (g[k].2.take j) (terminalsF (g.take k))
  have h2 := terminals_len (g := g.take k) (fun p hp => h p (mem_take hp))
  have h3 := h g[k] (List.getElem_mem hk)
  simp at h1 h2
  omega

/-- Rows of heads that have a word. -/
structure Wordy (g : Gram) (L : List Str) : Prop where
  nodup : L.Nodup
  word : ∀ x ∈ L, isHead g x = true ∧ ∃ n y, D g n [x] y

theorem word_list {g : Gram} (hm : Sm g) {L : List Str} (hL : Wordy g L) {p : Prd} (hp : p ∈ g) : ∀ l : List Str, (∀ s ∈ l, s ∈ p.2) → (l.any fun s => greatB s && !has L s) = false → ∃ n y, D g n l y
  | [], _, _ => ⟨0, [], .nil⟩
  | s :: l, h, ha => by
    simp only [List.any_cons, Bool.or_eq_false_iff] at ha
    obtain ⟨n, y, hd⟩ := word_list hm hL hp l (fun t ht => h t (List.mem_cons_of_mem _ ht)) ha.2
    have hs := h s (List.mem_cons_self ..)
    cases hg : greatB s with
    | false =>
      rw [hm.great_iff hp hs] at hg
      exact ⟨n, s :: y, .term hg hd⟩
    | true =>
      have h1 := ha.1
      rw [hg] at h1
      simp at h1
      obtain ⟨m, z, hz⟩ := (hL.word s (has_iff.1 h1)).2
      exact ⟨m + n, z ++ y, by simpa using hz.append hd⟩
theorem Wordy.snoc {g : Gram} (hm : Sm g) {L : List Str} (hL : Wordy g L) {k : Nat} (hk : k < g.length) (h1 : has L g[k].1 = false) (h2 : (g[k].2.any fun s => greatB s && !has L s) = false) : Wordy g (L ++ [g[k].1]) := by
  have hmem := List.getElem_mem hk
  refine ⟨?_, ?_⟩
  · rw [List.nodup_append]
    refine ⟨hL.nodup, by simp, ?_⟩
    intro a ha b hb e
    simp at hb
    subst hb; subst e
    exact absurd ha (has_false.1 h1)
  · intro x hx
    rcases List.mem_append.1 hx with hx | hx
    · exact hL.word x hx
    · simp at hx
      subst hx
      obtain ⟨n, y, hd⟩ := word_list hm hL hmem g[k].2 (fun s hs => hs) h2
      exact ⟨isHead_iff.2 ⟨g[k].2, hmem⟩, n + 1, y, D.one (b := g[k].2) hmem hd⟩
theorem headsF_mem {g : Gram} {x : Str} : x ∈ headsF g ↔ isHead g x = true := by
  have : ∀ (g : Gram) (out : List Str), x ∈ g.foldl (fun out p => addTo out p.1) out ↔ x ∈ out ∨ isHead g x = true := by
    intro g
    induction g with
    | nil => intro out; simp [isHead]
    | cons p g ih =>
      intro out
      simp only [List.foldl_cons, ih]
      have e : isHead (p :: g) x = (p.1 == x || isHead g x) := by simp [isHead]
      rw [e]
      unfold addTo
      cases hh : has out p.1 with
      | true =>
        simp only [if_true]
        have := has_iff.1 hh
        constructor
        · rintro (h | h)
          · exact .inl h
          · exact .inr (by simp [h])
        · rintro (h | h)
          · exact .inl h
          · simp only [Bool.or_eq_true, beq_iff_eq] at h
            rcases h with rfl | h
            · exact .inl this
            · exact .inr h
      | false =>
        simp only [Bool.false_eq_true, if_false, List.mem_append, List.mem_singleton, Bool.or_eq_true, beq_iff_eq]
        constructor
        · rintro ((h | rfl) | h)
          · exact .inl h
          · exact .inr (.inl rfl)
          · exact .inr (.inr h)
        · rintro (h | rfl | h)
          · exact .inl (.inl h)
          · exact .inl (.inr rfl)
          · exact .inr h
  have := this g []
  simpa [headsF] using this
theorem headsF_nodup (g : Gram) : (headsF g).Nodup := by
  have : ∀ (g : Gram) (out : List Str), out.Nodup → (g.foldl (fun out p => addTo out p.1) out).Nodup := by
    intro g
    induction g with
    | nil => intro out h; exact h
    | cons p g ih =>
      intro out h
      simp only [List.foldl_cons]
      apply ih
      unfold addTo
      cases hh : has out p.1 with
      | true => simpa using h
      | false =>
        simp only [Bool.false_eq_true, if_false]
        rw [List.nodup_append]
        refine ⟨h, by simp, ?_⟩
        intro a ha b hb e
        simp at hb
        subst hb; subst e
        exact absurd ha (has_false.1 hh)
  exact this g [] List.nodup_nil
theorem Wordy.len {g : Gram} {L : List Str} (h : Wordy g L) : L.length ≤ (headsF g).length :=
  nodup_le h.nodup (fun x hx => headsF_mem.2 (h.word x hx).1)
/-- Where there are as many, every head has a word. -/
theorem Wordy.all {g : Gram} {L : List Str} (h : Wordy g L) (he : L.length = (headsF g).length) : Productive g := by
  intro A hA
  by_cases hin : A ∈ L
  · exact (h.word A hin).2
  · exfalso
    have hn : (A :: L).Nodup := List.nodup_cons.2 ⟨hin, h.nodup⟩
    have := nodup_le (V := A :: L) (L := headsF g) hn (fun x hx => by
      rcases List.mem_cons.1 hx with rfl | hx
      · exact headsF_mem.2 hA
      · exact headsF_mem.2 (h.word x hx).1)
    simp at this
    omega
/-- A grammar of which is spoken. -/
structure GOk (g : Gram) : Prop extends Sm g where
  prod : Productive g
end Go.Proofs.YtdejcdmgcckmoaaGreatDoor

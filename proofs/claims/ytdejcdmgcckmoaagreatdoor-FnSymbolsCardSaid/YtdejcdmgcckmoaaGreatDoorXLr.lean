/- Derivations, first letters, items and runs of an LR parser over plain lists. -/
namespace Lr
abbrev Str := List UInt8
abbrev Prd := Str × List Str
abbrev Gram := List Prd

def isHead (g : Gram) (s : Str) : Bool := g.any fun p => p.1 == s

theorem isHead_iff {g : Gram} {s : Str} : isHead g s = true ↔ ∃ b, (s, b) ∈ g := by
  unfold isHead
  simp only [List.any_eq_true, beq_iff_eq]
  constructor
  · rintro ⟨⟨h, b⟩, hm, rfl⟩; exact ⟨b, hm⟩
  · rintro ⟨b, hm⟩; exact ⟨(s, b), hm, rfl⟩

/-- The symbols `l` derive the terminals `x` by `n` productions. -/
inductive D (g : Gram) : Nat → List Str → List Str → Prop
  | nil : D g 0 [] []
  | term {t : Str} {n : Nat} {l x : List Str} : isHead g t = false → D g n l x → D g n (t :: l) (t :: x)
  | head {A : Str} {b l x y : List Str} {n m : Nat} : (A, b) ∈ g → D g n b x → D g m l y → D g (n + m + 1) (A :: l) (x ++ y)

/-- The symbols `l` may derive something that begins with `u` and `a`; `n`: productions done ahead of `a`, and those on the way to it. -/
inductive Pt (g : Gram) : Nat → List Str → List Str → Str → Prop
  | term {t : Str} {l : List Str} : isHead g t = false → Pt g 0 (t :: l) [] t
  | head {A a : Str} {b l u : List Str} {n : Nat} : (A, b) ∈ g → Pt g n b u a → Pt g (n + 1) (A :: l) u a
  | skipT {t a : Str} {l u : List Str} {n : Nat} : isHead g t = false → Pt g n l u a → Pt g n (t :: l) (t :: u) a
  | skipH {A a : Str} {b l x u : List Str} {n m : Nat} : (A, b) ∈ g → D g n b x → Pt g m l u a → Pt g (n + m + 1) (A :: l) (x ++ u) a

variable {g : Gram}

theorem D.term_of {n : Nat} {l x : List Str} (h : D g n l x) : ∀ t ∈ x, isHead g t = false := by
  induction h with
  | nil => intro t ht; cases ht
  | term ht _ ih => intro t h; rcases List.mem_cons.1 h with rfl | h; exact ht; exact ih t h
  | head _ _ _ ih1 ih2 => intro t h; rcases List.mem_append.1 h with h | h; exact ih1 t h; exact ih2 t h

theorem Pt.term_of {n : Nat} {l u : List Str} {a : Str} (h : Pt g n l u a) : isHead g a = false := by
  induction h with
  | term ht => exact ht
  | head _ _ ih => exact ih
  | skipT _ _ ih => exact ih
  | skipH _ _ _ ih => exact ih

theorem D.append {n m : Nat} {l l' x y : List Str} (h : D g n l x) (k : D g m l' y) : D g (n + m) (l ++ l') (x ++ y) := by
  induction h with
  | nil => simpa using k
  | term ht _ ih => exact .term ht ih
  | @head A b l x y n m' hm h1 _ _ ih2 =>
    have := D.head hm h1 ih2
    rw [List.append_assoc]
    have e : n + (m' + m) + 1 = n + m' + 1 + m := by omega
    rw [e] at this
    exact this

theorem D.split : ∀ {l l' : List Str} {n : Nat} {x : List Str}, D g n (l ++ l') x → ∃ n1 n2 x1 x2, x = x1 ++ x2 ∧ n = n1 + n2 ∧ D g n1 l x1 ∧ D g n2 l' x2
  | [], l', n, x, h => ⟨0, n, [], x, rfl, by omega, .nil, h⟩
  | X :: l, l', n, x, h => by
    cases h with
    | term ht h =>
      obtain ⟨n1, n2, x1, x2, rfl, rfl, h1, h2⟩ := D.split h
      exact ⟨n1, n2, _ :: x1, x2, rfl, rfl, .term ht h1, h2⟩
    | @head A b _ x y n m hm h0 h =>
      obtain ⟨n1, n2, x1, x2, rfl, rfl, h1, h2⟩ := D.split h
      exact ⟨n + n1 + 1, n2, x ++ x1, x2, by simp, by omega, .head hm h0 h1, h2⟩

theorem D.one {A : Str} {b x : List Str} {n : Nat} (hm : (A, b) ∈ g) (h : D g n b x) : D g (n + 1) [A] x := by
  have := D.head hm h .nil
  simpa using this

/-- A symbol's derivation ahead of a partial one. -/
theorem Pt.skip {X a : Str} {l x u : List Str} {n m : Nat} (h : D g n [X] x) (k : Pt g m l u a) : Pt g (n + m) (X :: l) (x ++ u) a := by
  cases h with
  | term ht h => cases h; simpa using Pt.skipT ht k
  | @head A b _ x y n m' hm h1 h2 =>
    cases h2
    have := Pt.skipH hm h1 k
    have e : n + 0 + 1 + m = n + m + 1 := by omega
    rw [e]; simpa using this

theorem Pt.right {n : Nat} {l l' u : List Str} {a : Str} (h : Pt g n l u a) : Pt g n (l ++ l') u a := by
  induction h with
  | term ht => exact .term ht
  | head hm h _ => exact .head hm h
  | skipT ht _ ih => exact .skipT ht ih
  | skipH hm h1 _ ih => exact .skipH hm h1 ih

/-- The first terminal of a derivation. -/
theorem D.first {n : Nat} {l x : List Str} (h : D g n l x) : ∀ {c : Str} {y : List Str}, x = c :: y → ∃ m, Pt g m l [] c := by
  induction h with
  | nil => intro c y e; cases e
  | term ht _ _ => intro c y e; cases e; exact ⟨0, .term ht⟩
  | @head A b l x y n m hm h1 h2 ih1 ih2 =>
    intro c z e
    cases x with
    | nil =>
      obtain ⟨k, hk⟩ := ih2 (c := c) (y := z) (by simpa using e)
      exact ⟨n + k + 1, by simpa using Pt.skipH hm h1 hk⟩
    | cons d x =>
      simp at e
      obtain ⟨rfl, _⟩ := e
      obtain ⟨k, hk⟩ := ih1 rfl
      exact ⟨k + 1, .head hm hk⟩

/-- The first terminal of a partial derivation. -/
theorem Pt.first {n : Nat} {l u : List Str} {a : Str} (h : Pt g n l u a) : ∀ {c : Str} {y : List Str}, u ++ [a] = c :: y → ∃ m, Pt g m l [] c := by
  induction h with
  | term ht => intro c y e; simp at e; obtain ⟨rfl, rfl⟩ := e; exact ⟨0, .term ht⟩
  | head hm h ih => intro c y e; obtain ⟨k, hk⟩ := ih e; exact ⟨k + 1, .head hm hk⟩
  | skipT ht h ih => intro c y e; simp at e; obtain ⟨rfl, rfl⟩ := e; exact ⟨0, .term ht⟩
  | @skipH A a b l x u n m hm h1 h2 ih =>
    intro c y e
    cases x with
    | nil => obtain ⟨k, hk⟩ := ih (c := c) (y := y) (by simpa using e); exact ⟨n + k + 1, by simpa using Pt.skipH hm h1 hk⟩
    | cons d x => simp at e; obtain ⟨rfl, _⟩ := e; obtain ⟨k, hk⟩ := h1.first rfl; exact ⟨k + 1, .head hm hk⟩

/-- May `c` stand first in what the symbols derive, with `b` behind them? -/
def Fst (g : Gram) (l : List Str) (b c : Str) : Prop := (∃ n, Pt g n l [] c) ∨ ((∃ n, D g n l []) ∧ c = b)

structure Itm where
  prod : Option Nat
  dot : Nat
  look : Str
  deriving DecidableEq

def start (g : Gram) : Str := match g with | [] => [] | p :: _ => p.1
def body (g : Gram) : Option Nat → List Str
  | none => [start g]
  | some n => (g[n]?.getD ([], [])).2
def Itm.rest (g : Gram) (i : Itm) : List Str := (body g i.prod).drop i.dot
def endS : Str := [36]

/-- The items that are valid for a row of symbols. -/
inductive Vld (g : Gram) : List Str → Itm → Prop
  | init : Vld g [] ⟨none, 0, endS⟩
  | close {γ : List Str} {i : Itm} {B c : Str} {b δ : List Str} {n : Nat} : Vld g γ i → i.rest g = B :: δ → g[n]? = some (B, b) → Fst g δ i.look c → Vld g γ ⟨some n, 0, c⟩
  | shift {γ : List Str} {i : Itm} {X : Str} {δ : List Str} : Vld g γ i → i.rest g = X :: δ → Vld g (γ ++ [X]) ⟨i.prod, i.dot + 1, i.look⟩

theorem Itm.rest_succ {i : Itm} {X : Str} {δ : List Str} (h : i.rest g = X :: δ) : (⟨i.prod, i.dot + 1, i.look⟩ : Itm).rest g = δ := by
  unfold Itm.rest at h ⊢
  have : (body g i.prod).drop (i.dot + 1) = ((body g i.prod).drop i.dot).drop 1 := by rw [List.drop_drop]
  simp [this, h]

theorem Itm.take_succ {i : Itm} {X : Str} {δ : List Str} (h : i.rest g = X :: δ) : (body g i.prod).take (i.dot + 1) = (body g i.prod).take i.dot ++ [X] := by
  unfold Itm.rest at h
  have hl : i.dot < (body g i.prod).length := by
    apply Nat.lt_of_not_le
    intro hle
    rw [List.drop_of_length_le hle] at h
    cases h
  rw [List.take_succ_eq_append_getElem hl]
  congr 2
  have := List.drop_eq_getElem_cons hl
  rw [h] at this
  exact (List.cons.inj this).1.symm

theorem Vld.tail {γ : List Str} {i : Itm} (h : Vld g γ i) : ∃ α, γ = α ++ (body g i.prod).take i.dot := by
  induction h with
  | init => exact ⟨[], by simp⟩
  | @close γ _ _ _ _ _ _ _ _ _ _ => exact ⟨γ, by simp⟩
  | @shift γ i X δ _ hr ih =>
    obtain ⟨α, hα⟩ := ih
    exact ⟨α, by simp only []; rw [Itm.take_succ hr, ← List.append_assoc, ← hα]⟩

theorem Vld.rest_le {γ : List Str} {i : Itm} (h : Vld g γ i) : i.dot ≤ (body g i.prod).length := by
  induction h with
  | init => simp
  | close => simp
  | @shift γ i X δ _ hr ih =>
    simp only []
    unfold Itm.rest at hr
    apply Nat.lt_of_not_le
    intro hle
    rw [List.drop_of_length_le hle] at hr
    cases hr

theorem Vld.zero {γ : List Str} {i : Itm} (h : Vld g γ i) : i.prod = none → γ = [start g].take i.dot ∧ i.look = endS := by
  induction h with
  | init => intro _; simp
  | close => intro h; cases h
  | @shift γ i X δ _ hr ih =>
    intro hp
    simp only [] at hp
    obtain ⟨h1, h2⟩ := ih hp
    refine ⟨?_, h2⟩
    have := Itm.take_succ hr
    rw [hp] at this
    simp only [body] at this
    simp only []
    rw [this, ← h1]

theorem Vld.lt {γ : List Str} {i : Itm} (h : Vld g γ i) : ∀ {n : Nat}, i.prod = some n → n < g.length := by
  induction h with
  | init => intro n h; cases h
  | close _ _ hn _ _ => intro m h; cases h; exact (List.getElem?_eq_some_iff.1 hn).1
  | shift _ _ ih => intro n h; exact ih h

/-- Every nonterminal has a word. -/
def Productive (g : Gram) : Prop := ∀ A, isHead g A = true → ∃ n x, D g n [A] x

theorem Productive.list (hp : Productive g) : ∀ l : List Str, ∃ n x, D g n l x
  | [] => ⟨0, [], .nil⟩
  | X :: l => by
    obtain ⟨n, x, h⟩ := Productive.list hp l
    cases hX : isHead g X with
    | false => exact ⟨n, X :: x, .term hX h⟩
    | true =>
      obtain ⟨m, y, k⟩ := hp X hX
      exact ⟨m + n, y ++ x, by simpa using k.append h⟩

theorem Productive.fst (hp : Productive g) (l : List Str) (b : Str) : ∃ c, Fst g l b c := by
  obtain ⟨n, x, h⟩ := hp.list l
  cases x with
  | nil => exact ⟨b, .inr ⟨⟨n, h⟩, rfl⟩⟩
  | cons c y => obtain ⟨m, hm⟩ := h.first rfl; exact ⟨c, .inl ⟨m, hm⟩⟩

/-! ### The context of an item: what its rest makes goes on to the start's -/
theorem Vld.ctx {γ : List Str} {i : Itm} (h : Vld g γ i) : ∀ {u : List Str} {k : Nat}, D g k γ u →
    (∀ v a n, Pt g n (i.rest g) v a → ∃ n', Pt g n' [start g] (u ++ v) a) ∧
    (∀ v n, D g n (i.rest g) v → (i.look = endS ∧ ∃ n', D g n' [start g] (u ++ v)) ∨ (∃ n', Pt g n' [start g] (u ++ v) i.look)) := by
  induction h with
  | init =>
    intro u k hk
    cases hk
    exact ⟨fun v a n h => ⟨n, h⟩, fun v n h => .inl ⟨rfl, n, h⟩⟩
  | @close γ i B c b δ n0 _ hr hn hf ih =>
    intro u k hk
    obtain ⟨ihA, ihB⟩ := ih hk
    have hmem : (B, b) ∈ g := List.mem_of_getElem? hn
    have hrest : (⟨some n0, 0, c⟩ : Itm).rest g = b := by simp [Itm.rest, body, hn]
    rw [hrest]
    refine ⟨fun v a n h => ihA v a (n + 1) (by rw [hr]; exact .head hmem h), fun v n h => ?_⟩
    rcases hf with ⟨m, hm⟩ | ⟨⟨m, hm⟩, rfl⟩
    · obtain ⟨n', hn'⟩ := ihA v c (n + m + 1) (by rw [hr]; have := Pt.skipH hmem h hm; simpa using this)
      exact .inr ⟨n', hn'⟩
    · have := ihB v (n + m + 1) (by rw [hr]; have := D.head hmem h hm; simpa using this)
      exact this
  | @shift γ i X δ _ hr ih =>
    intro u k hk
    obtain ⟨n1, n2, x1, x2, rfl, rfl, h1, h2⟩ := hk.split
    obtain ⟨ihA, ihB⟩ := ih h1
    rw [Itm.rest_succ hr]
    refine ⟨fun v a n h => ?_, fun v n h => ?_⟩
    · obtain ⟨n', hn'⟩ := ihA (x2 ++ v) a (n2 + n) (by rw [hr]; exact Pt.skip h2 h)
      exact ⟨n', by simpa using hn'⟩
    · have := ihB (x2 ++ v) (n2 + n) (by rw [hr]; have := h2.append h; simpa using this)
      simpa using this

/-! ### Runs of the parser, by rows of symbols -/
/-- From a row of symbols and what is to be read to another such pair, with the productions that were reduced. -/
inductive Run (g : Gram) : List Str → List Str → List Nat → List Str → List Str → Prop
  | refl {γ r : List Str} : Run g γ r [] γ r
  | shift {γ γ' r r' : List Str} {a : Str} {ps : List Nat} {i : Itm} {δ : List Str} : Vld g γ i → i.rest g = a :: δ → isHead g a = false → Run g (γ ++ [a]) r ps γ' r' → Run g γ (a :: r) ps γ' r'
  | reduce {α b γ' r r' : List Str} {A a : Str} {p : Nat} {ps : List Nat} : g[p]? = some (A, b) → Vld g (α ++ b) ⟨some p, b.length, a⟩ → Run g (α ++ [A]) (a :: r) ps γ' r' → Run g (α ++ b) (a :: r) (p :: ps) γ' r'

theorem Run.trans {γ γ' γ'' r r' r'' : List Str} {ps qs : List Nat} (h : Run g γ r ps γ' r') (k : Run g γ' r' qs γ'' r'') : Run g γ r (ps ++ qs) γ'' r'' := by
  induction h with
  | refl => exact k
  | shift hi hr ha _ ih => exact .shift hi hr ha (ih k)
  | reduce hp hv _ ih => exact .reduce hp hv (ih k)

theorem Vld.skip {γ : List Str} {i : Itm} (h : Vld g γ i) : ∀ {l δ : List Str}, i.rest g = l ++ δ → Vld g (γ ++ l) ⟨i.prod, i.dot + l.length, i.look⟩ := by
  intro l
  induction l generalizing γ i with
  | nil => intro δ _; simpa using h
  | cons X l ih =>
    intro δ hr
    have h1 := Vld.shift h hr
    have h2 := ih h1 (δ := δ) (Itm.rest_succ hr)
    simpa [Nat.add_assoc, Nat.add_comm 1] using h2

theorem rest_append {i : Itm} {l δ : List Str} (h : i.rest g = l ++ δ) : (⟨i.prod, i.dot + l.length, i.look⟩ : Itm).rest g = δ := by
  unfold Itm.rest at h ⊢
  simp only []
  rw [← List.drop_drop, h]
  simp

/-- What the symbols behind the dot derive, the parser reads. -/
theorem Run.sim {n : Nat} {l x : List Str} (h : D g n l x) : ∀ {γ δ : List Str} {i : Itm} {c : Str} {r : List Str}, Vld g γ i → i.rest g = l ++ δ → Fst g δ i.look c →
    ∃ ps : List Nat, ps.length = n ∧ Run g γ (x ++ c :: r) ps (γ ++ l) (c :: r) := by
  induction h with
  | nil => intro γ δ i c r _ _ _; exact ⟨[], rfl, by simpa using Run.refl⟩
  | @term t n l x ht h ih =>
    intro γ _ i c r hi hr hf
    obtain ⟨ps, hps, hrun⟩ := ih (γ := γ ++ [t]) (i := ⟨i.prod, i.dot + 1, i.look⟩) (c := c) (r := r) (Vld.shift hi hr) (Itm.rest_succ hr) hf
    exact ⟨ps, hps, by have := Run.shift hi hr ht hrun; simpa using this⟩
  | @head A b l x y n m hm h1 h2 ih1 ih2 =>
    intro γ δ i c r hi hr hf
    obtain ⟨p, hp⟩ := List.getElem?_of_mem hm
    obtain ⟨c', r', e, hf'⟩ : ∃ c' r', y ++ c :: r = c' :: r' ∧ Fst g (l ++ δ) i.look c' := by
      cases y with
      | nil =>
        refine ⟨c, r, rfl, ?_⟩
        rcases hf with ⟨k, hk⟩ | ⟨⟨k, hk⟩, rfl⟩
        · left
          clear ih1 ih2 hr
          have : ∀ {m : Nat} {l x : List Str}, D g m l x → x = [] → ∃ k, Pt g k (l ++ δ) [] c := by
            intro m l x h
            induction h with
            | nil => intro _; exact ⟨k, hk⟩
            | term => intro e; cases e
            | @head A b l x y n m hm h1 h2 _ ih =>
              intro e
              obtain ⟨rfl, rfl⟩ := List.append_eq_nil_iff.1 e
              obtain ⟨k', hk'⟩ := ih rfl
              exact ⟨_, by simpa using Pt.skipH hm h1 hk'⟩
          exact this h2 rfl
        · exact .inr ⟨⟨_, by simpa using h2.append hk⟩, rfl⟩
      | cons d y => obtain ⟨k, hk⟩ := h2.first rfl; exact ⟨d, y ++ c :: r, rfl, .inl ⟨k, hk.right⟩⟩
    have hv : Vld g γ ⟨some p, 0, c'⟩ := Vld.close hi hr hp hf'
    obtain ⟨ps, hps, hrun1⟩ := ih1 (γ := γ) (i := ⟨some p, 0, c'⟩) (δ := []) (c := c') (r := r') hv (by simp [Itm.rest, body, hp]) (.inr ⟨⟨0, .nil⟩, rfl⟩)
    have hend : Vld g (γ ++ b) ⟨some p, b.length, c'⟩ := by
      have := Vld.skip hv (l := b) (δ := []) (by simp [Itm.rest, body, hp])
      simpa using this
    obtain ⟨qs, hqs, hrun2⟩ := ih2 (γ := γ ++ [A]) (i := ⟨i.prod, i.dot + 1, i.look⟩) (c := c) (r := r) (Vld.shift hi hr) (Itm.rest_succ hr) hf
    refine ⟨ps ++ p :: qs, by simp [hps, hqs]; omega, ?_⟩
    have hred : Run g (γ ++ b) (c' :: r') (p :: qs) (γ ++ A :: l) (c :: r) := by
      refine Run.reduce hp hend ?_
      rw [← e]
      simpa using hrun2
    have := hrun1.trans hred
    rw [List.append_assoc, e]
    exact this

/-- What the symbols behind the dot may begin with, the parser reads, and can then shift. -/
theorem Run.simP (hp : Productive g) {n : Nat} {l u : List Str} {a : Str} (h : Pt g n l u a) : ∀ {γ δ : List Str} {i : Itm} {r : List Str}, Vld g γ i → i.rest g = l ++ δ →
    ∃ (ps : List Nat) (γ' : List Str) (i' : Itm) (δ' : List Str), ps.length ≤ n ∧ Run g γ (u ++ a :: r) ps γ' (a :: r) ∧ Vld g γ' i' ∧ i'.rest g = a :: δ' := by
  induction h with
  | @term t l ht => intro γ δ i r hi hr; exact ⟨[], γ, i, l ++ δ, by simp, Run.refl, hi, hr⟩
  | @head A a b l u n hm h ih =>
    intro γ δ i r hi hr
    obtain ⟨p, hpp⟩ := List.getElem?_of_mem hm
    obtain ⟨c, hc⟩ := hp.fst (l ++ δ) i.look
    have hv : Vld g γ ⟨some p, 0, c⟩ := Vld.close hi hr hpp hc
    obtain ⟨ps, γ', i', δ', h1, h2, h3, h4⟩ := ih (r := r) hv (δ := []) (by simp [Itm.rest, body, hpp])
    exact ⟨ps, γ', i', δ', by omega, h2, h3, h4⟩
  | @skipT t a l u n ht h ih =>
    intro γ δ i r hi hr
    obtain ⟨ps, γ', i', δ', h1, h2, h3, h4⟩ := ih (r := r) (Vld.shift hi hr) (Itm.rest_succ hr)
    exact ⟨ps, γ', i', δ', h1, Run.shift hi hr ht h2, h3, h4⟩
  | @skipH A a b l x u n m hm h1 h2 ih =>
    intro γ δ i r hi hr
    obtain ⟨p, hpp⟩ := List.getElem?_of_mem hm
    obtain ⟨c', r', e, hf'⟩ : ∃ c' r', u ++ a :: r = c' :: r' ∧ Fst g (l ++ δ) i.look c' := by
      cases u with
      | nil => obtain ⟨k, hk⟩ := h2.first (c := a) (y := []) rfl; exact ⟨a, r, rfl, .inl ⟨k, hk.right⟩⟩
      | cons d u => obtain ⟨k, hk⟩ := h2.first (c := d) (y := u ++ [a]) rfl; exact ⟨d, u ++ a :: r, rfl, .inl ⟨k, hk.right⟩⟩
    have hv : Vld g γ ⟨some p, 0, c'⟩ := Vld.close hi hr hpp hf'
    obtain ⟨ps, hps, hrun1⟩ := Run.sim h1 (r := r') hv (δ := []) (c := c') (by simp [Itm.rest, body, hpp]) (.inr ⟨⟨0, .nil⟩, rfl⟩)
    have hend : Vld g (γ ++ b) ⟨some p, b.length, c'⟩ := by
      have := Vld.skip hv (l := b) (δ := []) (by simp [Itm.rest, body, hpp])
      simpa using this
    obtain ⟨qs, γ', i', δ', h3, h4, h5, h6⟩ := ih (γ := γ ++ [A]) (r := r) (Vld.shift hi hr) (Itm.rest_succ hr)
    refine ⟨ps ++ p :: qs, γ', i', δ', by simp [hps]; omega, ?_, h5, h6⟩
    have hred : Run g (γ ++ b) (c' :: r') (p :: qs) γ' (a :: r) := Run.reduce hpp hend (by rw [← e]; exact h4)
    have := hrun1.trans hred
    rw [List.append_assoc, e]
    exact this

/-- What the parser has read its row of symbols derives, by as many productions as it reduced. -/
theorem Run.sound {γ r γ' r' : List Str} {ps : List Nat} (h : Run g γ r ps γ' r') : ∀ {u : List Str} {n : Nat}, D g n γ u → ∃ v, r = v ++ r' ∧ D g (n + ps.length) γ' (u ++ v) := by
  induction h with
  | refl => intro u n h; exact ⟨[], rfl, by simpa using h⟩
  | @shift γ γ' r r' a ps i δ hi hr ha _ ih =>
    intro u n h
    obtain ⟨v, e, hd⟩ := ih (h.append (D.term ha .nil))
    exact ⟨a :: v, by rw [e]; rfl, by simpa using hd⟩
  | @reduce α b γ' r r' A a p ps hp hv _ ih =>
    intro u n h
    obtain ⟨n1, n2, x1, x2, rfl, rfl, h1, h2⟩ := h.split
    have := h1.append (D.one (List.mem_of_getElem? hp) h2)
    obtain ⟨v, e, hd⟩ := ih this
    refine ⟨v, e, ?_⟩
    have e2 : n1 + n2 + (p :: ps).length = n1 + (n2 + 1) + ps.length := by simp; omega
    rw [e2]; exact hd
end Lr

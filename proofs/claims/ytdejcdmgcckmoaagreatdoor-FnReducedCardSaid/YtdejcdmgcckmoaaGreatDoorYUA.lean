/- Parts of a word; a grammar that is light. -/
import Derived.Test.YtdejcdmgcckmoaaGreatDoorYA
namespace Lr
variable {g : Gram}
abbrev Part := Str × Nat × Nat
/-- A row of symbols has a part of the word. -/
inductive EndsR (g : Gram) (hs : List Part) (w : List Str) : List Str → Nat → Nat → Prop
  | nil {k : Nat} : EndsR g hs w [] k k
  | term {s : Str} {l : List Str} {k m : Nat} : isHead g s = false → w[k]? = some s → EndsR g hs w l (k + 1) m → EndsR g hs w (s :: l) k m
  | head {s : Str} {l : List Str} {k k' m : Nat} : isHead g s = true → (s, k, k') ∈ hs → EndsR g hs w l k' m → EndsR g hs w (s :: l) k m
/-- The part of a word from one place to another. -/
def cutW (w : List Str) (a b : Nat) : List Str := (w.take b).drop a
theorem cut_nil (w : List Str) (a : Nat) : cutW w a a = [] := by
  unfold cutW; rw [List.drop_of_length_le]; rw [List.length_take]; omega
theorem cut_cat {w : List Str} {a b c : Nat} (h1 : a ≤ b) (h2 : b ≤ c) : cutW w a c = cutW w a b ++ cutW w b c := by
  unfold cutW
  have e : w.take c = w.take b ++ (w.take c).drop b := by
    have := (List.take_append_drop b (w.take c)).symm
    rw [List.take_take, Nat.min_eq_left h2] at this
    exact this
  by_cases hb : b ≤ w.length
  · conv => lhs; rw [e]
    rw [List.drop_append_of_le_length (by rw [List.length_take]; omega)]
  · rw [List.take_of_length_le (by omega), List.take_of_length_le (i := b) (by omega), List.drop_of_length_le (i := b) (by omega)]
    simp
theorem cut_one {w : List Str} {a : Nat} {s : Str} (h : w[a]? = some s) : cutW w a (a + 1) = [s] := by
  unfold cutW
  have hl := (List.getElem?_eq_some_iff.1 h).1
  rw [List.take_succ_eq_append_getElem hl, List.drop_append_of_le_length (by rw [List.length_take]; omega), List.drop_of_length_le (by rw [List.length_take]; omega)]
  rw [(List.getElem?_eq_some_iff.1 h).2]
  rfl
/-- All parts told are right. -/
structure PartsOk (g : Gram) (w : List Str) (hs : List Part) : Prop where
  le : ∀ A a b, (A, a, b) ∈ hs → a ≤ b ∧ b ≤ w.length
  der : ∀ A a b, (A, a, b) ∈ hs → isHead g A = true ∧ ∃ n, D g n [A] (cutW w a b)
theorem EndsR.sound {hs : List Part} {w : List Str} (h : PartsOk g w hs) {l : List Str} {a b : Nat} (he : EndsR g hs w l a b) : a ≤ w.length → a ≤ b ∧ b ≤ w.length ∧ ∃ n, D g n l (cutW w a b) := by
  induction he with
  | nil => intro ha; exact ⟨Nat.le_refl _, ha, 0, by rw [cut_nil]; exact .nil⟩
  | @term s l k m hh hw _ ih =>
    intro _
    have hl := (List.getElem?_eq_some_iff.1 hw).1
    obtain ⟨h1, h2, n, h3⟩ := ih (by omega)
    refine ⟨by omega, h2, n, ?_⟩
    rw [cut_cat (b := k + 1) (by omega) h1, cut_one hw]
    exact .term hh h3
  | @head s l k k' m hh hm _ ih =>
    intro _
    obtain ⟨g1, g2⟩ := h.le _ _ _ hm
    obtain ⟨_, n', g3⟩ := h.der _ _ _ hm
    obtain ⟨h1, h2, n, h3⟩ := ih g2
    refine ⟨by omega, h2, n' + n, ?_⟩
    rw [cut_cat g1 h1]
    simpa using g3.append h3
def ClosedH (g : Gram) (w : List Str) (hs : List Part) : Prop := ∀ p ∈ g, ∀ a b, a ≤ w.length → EndsR g hs w p.2 a b → (p.1, a, b) ∈ hs
theorem ClosedH.complete {hs : List Part} {w : List Str} (hc : ClosedH g w hs) {n : Nat} {l x : List Str} (h : D g n l x) : ∀ {pre post : List Str}, w = pre ++ x ++ post → EndsR g hs w l pre.length (pre.length + x.length) := by
  induction h with
  | nil => intro pre post _; exact .nil
  | @term t n l x ht _ ih =>
    intro pre post e
    have := ih (pre := pre ++ [t]) (post := post) (by rw [e]; simp)
    refine .term ht ?_ ?_
    · rw [e]; simp
    · simp at this ⊢
      rw [show pre.length + (x.length + 1) = pre.length + 1 + x.length by omega]
      exact this
  | @head A b l x y n m hm _ _ ih1 ih2 =>
    intro pre post e
    have h1 := ih1 (pre := pre) (post := y ++ post) (by rw [e]; simp)
    have h2 := ih2 (pre := pre ++ x) (post := post) (by rw [e]; simp)
    have h3 := hc (A, b) hm _ _ (by rw [e]; simp) h1
    refine .head (isHead_iff.2 ⟨b, hm⟩) h3 ?_
    simp at h2 ⊢
    rw [← Nat.add_assoc]
    exact h2
/-- What the table of parts says in the end. -/
theorem has_iffD {hs : List Part} {w : List Str} (h : PartsOk g w hs) (hc : ClosedH g w hs) {A : Str} (hA : isHead g A = true) : (A, 0, w.length) ∈ hs ↔ ∃ n, D g n [A] w := by
  constructor
  · intro hm
    obtain ⟨_, n, hd⟩ := h.der _ _ _ hm
    exact ⟨n, by simpa [cutW] using hd⟩
  · rintro ⟨n, hd⟩
    have := hc.complete hd (pre := []) (post := []) (by simp)
    simp only [List.length_nil, Nat.zero_add] at this
    cases this with
    | term hh _ _ => rw [hA] at hh; cases hh
    | head hh hm hr =>
      cases hr
      exact hm
end Lr
namespace Lr
variable {g : Gram}

/-- What has been made so far of empty words: at a head by how many productions. -/
structure LtIn (g : Gram) (mk : Str → Nat) : Prop where
  size : ∀ A, mk A ≠ 0 → mk A ≤ 10 ∧ isHead g A = true ∧ D g (mk A) [A] []
def ClosedL (g : Gram) (mk : Str → Nat) : Prop := ∀ p ∈ g, (∀ s ∈ p.2, mk s ≠ 0) → mk p.1 ≠ 0
def cntL (H : List Str) (mk : Str → Nat) : Nat := H.countP fun A => !decide (mk A = 0)
/-- By how many productions a body makes the empty word; none: not. -/
def sumL (mk : Str → Nat) : List Str → Nat → Nat
  | [], n => n
  | s :: l, n => if mk s = 0 then 0 else sumL mk l (n + mk s)
theorem sumL_d {mk : Str → Nat} (hL : LtIn g mk) : ∀ {l : List Str} {n : Nat}, 0 < n → sumL mk l n ≠ 0 → (∀ s ∈ l, mk s ≠ 0) ∧ ∃ m, sumL mk l n = n + m ∧ D g m l []
  | [], n, h0, _ => ⟨by simp, 0, by simp [sumL], .nil⟩
  | s :: l, n, h0, h => by
    unfold sumL at h ⊢
    by_cases hs : mk s = 0
    · rw [if_pos hs] at h; exact absurd rfl h
    · rw [if_neg hs] at h ⊢
      obtain ⟨h1, m, h2, h3⟩ := sumL_d hL (by omega) h
      refine ⟨fun t ht => ?_, mk s + m, by omega, ?_⟩
      · rcases List.mem_cons.1 ht with rfl | ht
        · exact hs
        · exact h1 t ht
      · simpa using (hL.size s hs).2.2.append h3
theorem sumL_pos {mk : Str → Nat} : ∀ {l : List Str} {n : Nat}, 0 < n → (∀ s ∈ l, mk s ≠ 0) → sumL mk l n ≠ 0
  | [], n, h0, _ => by unfold sumL; omega
  | s :: l, n, h0, h => by
    unfold sumL
    rw [if_neg (h s (List.mem_cons_self ..))]
    exact sumL_pos (by omega) (fun t ht => h t (List.mem_cons_of_mem _ ht))
def putL (mk : Str → Nat) (A : Str) (n : Nat) : Str → Nat := fun B => if B = A then max (mk A) n else mk B
theorem LtIn.put {mk : Str → Nat} (hL : LtIn g mk) {p : Prd} (hp : p ∈ g) (hn : sumL mk p.2 1 ≤ 10) : LtIn g (putL mk p.1 (sumL mk p.2 1)) := by
  refine ⟨fun A hA => ?_⟩
  unfold putL at hA ⊢
  by_cases e : A = p.1
  · subst e
    rw [if_pos rfl] at hA ⊢
    by_cases hs : mk p.1 ≤ sumL mk p.2 1
    · rw [Nat.max_eq_right hs] at hA ⊢
      obtain ⟨_, m, h2, h3⟩ := sumL_d hL (by omega) hA
      refine ⟨hn, isHead_iff.2 ⟨p.2, hp⟩, ?_⟩
      rw [h2, Nat.add_comm]
      exact D.one (b := p.2) hp h3
    · rw [Nat.max_eq_left (Nat.le_of_lt (Nat.lt_of_not_le hs))] at hA ⊢
      exact hL.size _ hA
  · rw [if_neg e] at hA ⊢
    exact hL.size _ hA
/-- A round under way: k productions are done. -/
structure LtRd (g : Gram) (mk0 mk : Str → Nat) (k : Nat) : Prop where
  inn : LtIn g mk
  mono : ∀ A, mk0 A ≠ 0 → mk A ≠ 0
  done : ∀ p ∈ g.take k, (∀ s ∈ p.2, mk0 s ≠ 0) → mk p.1 ≠ 0
  same : ClosedL g mk0 → ∀ A, mk A ≠ 0 → mk0 A ≠ 0
theorem LtRd.init {mk : Str → Nat} (h : LtIn g mk) : LtRd g mk mk 0 := ⟨h, fun _ h => h, by simp, fun _ _ h => h⟩
theorem LtRd.next {mk0 mk : Str → Nat} {k : Nat} (h : LtRd g mk0 mk k) (hk : k < g.length) (hn : sumL mk g[k].2 1 ≤ 10) : LtRd g mk0 (putL mk g[k].1 (sumL mk g[k].2 1)) (k + 1) := by
  have grow : ∀ A, mk A ≠ 0 → putL mk g[k].1 (sumL mk g[k].2 1) A ≠ 0 := fun A hA => by
    unfold putL
    by_cases e : A = g[k].1
    · rw [if_pos e, ← e]
      have := Nat.le_max_left (mk A) (sumL mk g[k].2 1)
      omega
    · rw [if_neg e]; exact hA
  refine ⟨h.inn.put (List.getElem_mem hk) hn, fun A hA => grow A (h.mono A hA), fun p hp hs => ?_, fun hc A hA => ?_⟩
  · rw [List.take_succ_eq_append_getElem hk] at hp
    rcases List.mem_append.1 hp with hp | hp
    · exact grow _ (h.done p hp hs)
    · simp at hp; subst hp
      have := sumL_pos (n := 1) (by omega) (fun s hs' => h.mono s (hs s hs'))
      unfold putL
      rw [if_pos rfl]
      have h2 := Nat.le_max_right (mk g[k].1) (sumL mk g[k].2 1)
      exact fun e => this (by omega)
  · unfold putL at hA
    by_cases e : A = g[k].1
    · rw [if_pos e] at hA
      by_cases hz : mk g[k].1 = 0
      · have hs : sumL mk g[k].2 1 ≠ 0 := by rw [hz] at hA; simpa using hA
        rw [e]
        exact hc _ (List.getElem_mem hk) fun s hs' => h.same hc s ((sumL_d h.inn (by omega) hs).1 s hs')
      · rw [e]; exact h.same hc _ hz
    · rw [if_neg e] at hA; exact h.same hc A hA
/-- After r rounds. -/
structure LtOk (g : Gram) (H : List Str) (mk : Str → Nat) (r : Nat) : Prop where
  inn : LtIn g mk
  cnt : ClosedL g mk ∨ r ≤ cntL H mk
theorem countP_leL {α : Type} {p p' : α → Bool} (h : ∀ x, p x = true → p' x = true) (U : List α) : U.countP p ≤ U.countP p' := List.countP_mono_left fun x _ hx => h x hx
theorem countP_ltL {α : Type} {p p' : α → Bool} (h : ∀ x, p x = true → p' x = true) : ∀ {U : List α} {x : α}, x ∈ U → p' x = true → p x = false → U.countP p + 1 ≤ U.countP p'
  | a :: U, x, hx, h1, h2 => by
    rcases List.mem_cons.1 hx with rfl | hx
    · rw [List.countP_cons_of_pos h1, List.countP_cons_of_neg (by simp [h2])]
      have := countP_leL h U
      omega
    · have ih := countP_ltL h hx h1 h2
      rw [List.countP_cons, List.countP_cons]
      by_cases e : p a = true
      · simp [e, h a e]; omega
      · simp [e]; omega
theorem LtOk.next {H : List Str} (hH : ∀ A, isHead g A = true → A ∈ H) {mk0 mk : Str → Nat} {r : Nat} (h0 : LtOk g H mk0 r) (h : LtRd g mk0 mk g.length) : LtOk g H mk (r + 1) := by
  refine ⟨h.inn, ?_⟩
  have hdone : ∀ p ∈ g, (∀ s ∈ p.2, mk0 s ≠ 0) → mk p.1 ≠ 0 := fun p hp => h.done p (by rw [List.take_length]; exact hp)
  by_cases hc : ClosedL g mk0
  · left
    intro p hp hs
    exact hdone p hp fun s hs' => h.same hc s (hs s hs')
  · right
    have h1 : r ≤ cntL H mk0 := h0.cnt.resolve_left hc
    unfold ClosedL at hc
    obtain ⟨p, hp, hs, hz⟩ : ∃ p ∈ g, (∀ s ∈ p.2, mk0 s ≠ 0) ∧ mk0 p.1 = 0 := by
      apply Classical.byContradiction
      intro hn
      apply hc
      intro p hp hs hz
      exact hn ⟨p, hp, hs, hz⟩
    have := countP_ltL (p := fun A => !decide (mk0 A = 0)) (p' := fun A => !decide (mk A = 0)) (fun A hA => by simpa using h.mono A (by simpa using hA)) (hH p.1 (isHead_iff.2 ⟨p.2, hp⟩)) (by simpa using hdone p hp hs) (by simpa using hz)
    unfold cntL at *
    omega
theorem ClosedL.d {mk : Str → Nat} (hc : ClosedL g mk) {n : Nat} {l x : List Str} (h : D g n l x) : x = [] → ∀ s ∈ l, mk s ≠ 0 := by
  induction h with
  | nil => intro _ s hs; cases hs
  | term => intro e; cases e
  | @head A b l x y n m hm _ _ ih1 ih2 =>
    intro e s hs
    obtain ⟨rfl, rfl⟩ := List.append_eq_nil_iff.1 e
    rcases List.mem_cons.1 hs with rfl | hs
    · exact hc (s, b) hm (ih1 rfl)
    · exact ih2 rfl s hs
theorem LtOk.lite {H : List Str} {mk : Str → Nat} {r : Nat} (h : LtOk g H mk r) (hr : H.length < r) (hl : g.length ≤ 12) (hb : ∀ p ∈ g, p.2.length ≤ 4) : Lite g := by
  refine ⟨hl, hb, fun A n hd => ?_⟩
  have hc : ClosedL g mk := h.cnt.resolve_right fun hle => by
    have : cntL H mk ≤ H.length := List.countP_le_length
    omega
  have := hc.d hd rfl A (List.mem_cons_self ..)
  exact ⟨mk A, (h.inn.size A this).1, (h.inn.size A this).2.2⟩
theorem LtOk.init (g : Gram) (H : List Str) : LtOk g H (fun _ => 0) 0 := ⟨⟨fun _ h => absurd rfl h⟩, .inr (Nat.zero_le _)⟩
end Lr
namespace Go.Proofs.YtdejcdmgcckmoaaGreatDoor
open Lr

/-! Where a body's symbols may end. -/
def addN (on : List Nat) (x : Nat) : List Nat := if on.contains x then on else on ++ [x]
theorem addN_mem {on : List Nat} {x y : Nat} : y ∈ addN on x ↔ y ∈ on ∨ y = x := by
  unfold addN
  split
  · rename_i h
    have h : x ∈ on := by simpa using h
    constructor
    · exact .inl
    · rintro (h1 | rfl)
      · exact h1
      · exact h
  · simp
theorem addN_nodup {on : List Nat} {x : Nat} (h : on.Nodup) : (addN on x).Nodup := by
  unfold addN
  split
  · exact h
  · rename_i hx
    have hx : x ∉ on := by simpa using hx
    rw [List.nodup_append]
    refine ⟨h, by simp, fun a ha b hb e => ?_⟩
    simp at hb
    subst hb; subst e
    exact hx ha
theorem addN_has {on : List Nat} {x : Nat} (h : x ∈ on) : addN on x = on := by unfold addN; rw [if_pos (by simpa using h)]
theorem addN_new {on : List Nat} {x : Nat} (h : x ∉ on) : addN on x = on ++ [x] := by unfold addN; rw [if_neg (by simpa using h)]
def goT (w : List Str) (s : Str) (on : List Nat) (k : Nat) : List Nat := if w[k]? = some s then addN on (k + 1) else on
def goH (s : Str) (k : Nat) (on : List Nat) (x : Part) : List Nat := if x.1 = s ∧ x.2.1 = k then addN on x.2.2 else on
def goK (hs : List Part) (w : List Str) (s : Str) (on : List Nat) (k : Nat) : List Nat := if greatB s then hs.foldl (goH s k) on else goT w s on k
def endsS (hs : List Part) (w : List Str) (pl : List Nat) (s : Str) : List Nat := pl.foldl (goK hs w s) []
def endsF (hs : List Part) (w : List Str) (l : List Str) (fr : Nat) : List Nat := l.foldl (endsS hs w) [fr]
section
variable {hs : List Part} {w : List Str} {s : Str}
theorem goH_gen {k : Nat} : ∀ (hs : List Part) (on : List Nat), on.Nodup → (hs.foldl (goH s k) on).Nodup ∧ ∀ m, m ∈ hs.foldl (goH s k) on ↔ m ∈ on ∨ (s, k, m) ∈ hs
  | [], on, h => ⟨h, by simp⟩
  | x :: hs, on, h => by
    have key : (goH s k on x).Nodup ∧ ∀ m, m ∈ goH s k on x ↔ m ∈ on ∨ (s, k, m) = x := by
      unfold goH
      split
      · rename_i hc
        refine ⟨addN_nodup h, fun m => ?_⟩
        rw [addN_mem]
        obtain ⟨x1, x2, x3⟩ := x
        simp only at hc
        obtain ⟨rfl, rfl⟩ := hc
        simp
      · rename_i hc
        refine ⟨h, fun m => ⟨.inl, ?_⟩⟩
        rintro (h1 | rfl)
        · exact h1
        · exact absurd ⟨rfl, rfl⟩ hc
    obtain ⟨k1, k2⟩ := key
    obtain ⟨m1, m2⟩ := goH_gen hs _ k1
    refine ⟨m1, fun m => ?_⟩
    simp only [List.foldl_cons]
    rw [m2, k2, List.mem_cons, or_assoc]
theorem goK_gen {on : List Nat} (h : on.Nodup) (k : Nat) : (goK hs w s on k).Nodup ∧ ∀ m, m ∈ goK hs w s on k ↔ m ∈ on ∨ (greatB s = true ∧ (s, k, m) ∈ hs) ∨ (greatB s = false ∧ w[k]? = some s ∧ m = k + 1) := by
  unfold goK
  cases hg : greatB s with
  | true =>
    simp only [if_true]
    obtain ⟨h1, h2⟩ := goH_gen (s := s) (k := k) hs on h
    exact ⟨h1, fun m => by rw [h2]; simp⟩
  | false =>
    simp only [Bool.false_eq_true, if_false]
    unfold goT
    split
    · rename_i hc
      exact ⟨addN_nodup h, fun m => by rw [addN_mem]; simp [hc]⟩
    · rename_i hc
      exact ⟨h, fun m => by simp [hc]⟩
theorem endsS_gen : ∀ (pl on : List Nat), on.Nodup → (pl.foldl (goK hs w s) on).Nodup ∧ ∀ m, m ∈ pl.foldl (goK hs w s) on ↔ m ∈ on ∨ ∃ k ∈ pl, (greatB s = true ∧ (s, k, m) ∈ hs) ∨ (greatB s = false ∧ w[k]? = some s ∧ m = k + 1)
  | [], on, h => ⟨h, by simp⟩
  | k :: pl, on, h => by
    obtain ⟨k1, k2⟩ := goK_gen (hs := hs) (w := w) (s := s) h k
    obtain ⟨m1, m2⟩ := endsS_gen pl _ k1
    refine ⟨m1, fun m => ?_⟩
    simp only [List.foldl_cons]
    rw [m2, k2]
    constructor
    · rintro ((h | h) | ⟨j, hj, h⟩)
      · exact .inl h
      · exact .inr ⟨k, List.mem_cons_self .., h⟩
      · exact .inr ⟨j, List.mem_cons_of_mem _ hj, h⟩
    · rintro (h | ⟨j, hj, h⟩)
      · exact .inl (.inl h)
      · rcases List.mem_cons.1 hj with rfl | hj
        · exact .inl (.inr h)
        · exact .inr ⟨j, hj, h⟩
theorem endsS_mem {pl : List Nat} {m : Nat} : m ∈ endsS hs w pl s ↔ ∃ k ∈ pl, (greatB s = true ∧ (s, k, m) ∈ hs) ∨ (greatB s = false ∧ w[k]? = some s ∧ m = k + 1) := by
  unfold endsS; rw [(endsS_gen pl [] List.nodup_nil).2]; simp
theorem endsS_nodup (pl : List Nat) : (endsS hs w pl s).Nodup := (endsS_gen pl [] List.nodup_nil).1
theorem endsL_nodup : ∀ (l : List Str) {pl : List Nat}, pl.Nodup → (l.foldl (endsS hs w) pl).Nodup
  | [], _, h => h
  | _ :: l, pl, _ => endsL_nodup l (endsS_nodup pl)
theorem endsL_mem {g : Gram} : ∀ (l : List Str) {pl : List Nat} {m : Nat}, (∀ s ∈ l, greatB s = isHead g s) → (m ∈ l.foldl (endsS hs w) pl ↔ ∃ k ∈ pl, EndsR g hs w l k m)
  | [], pl, m, _ => by
    simp only [List.foldl_nil]
    constructor
    · intro h; exact ⟨m, h, .nil⟩
    · rintro ⟨k, hk, h⟩; cases h; exact hk
  | s :: l, pl, m, hg => by
    simp only [List.foldl_cons]
    rw [endsL_mem l fun t ht => hg t (List.mem_cons_of_mem _ ht)]
    have hs' := hg s (List.mem_cons_self ..)
    constructor
    · rintro ⟨k, hk, h⟩
      obtain ⟨j, hj, h1 | ⟨h1, h2, rfl⟩⟩ := endsS_mem.1 hk
      · exact ⟨j, hj, .head (by rw [← hs']; exact h1.1) h1.2 h⟩
      · exact ⟨j, hj, .term (by rw [← hs']; exact h1) h2 h⟩
    · rintro ⟨k, hk, h⟩
      cases h with
      | term h1 h2 h3 => exact ⟨k + 1, endsS_mem.2 ⟨k, hk, .inr ⟨by rw [hs']; exact h1, h2, rfl⟩⟩, h3⟩
      | head h1 h2 h3 => exact ⟨_, endsS_mem.2 ⟨k, hk, .inl ⟨by rw [hs']; exact h1, h2⟩⟩, h3⟩
theorem endsF_mem {g : Gram} {l : List Str} {fr m : Nat} (hg : ∀ s ∈ l, greatB s = isHead g s) : m ∈ endsF hs w l fr ↔ EndsR g hs w l fr m := by
  unfold endsF; rw [endsL_mem l hg]; simp
/-- All places lie in the word. -/
theorem endsL_le (hp : ∀ x ∈ hs, x.2.2 ≤ w.length) : ∀ (l : List Str) {pl : List Nat}, (∀ k ∈ pl, k ≤ w.length) → ∀ m ∈ l.foldl (endsS hs w) pl, m ≤ w.length
  | [], _, h => h
  | s :: l, pl, h => endsL_le hp l fun m hm => by
    obtain ⟨k, _, h1 | ⟨_, h2, rfl⟩⟩ := endsS_mem.1 hm
    · exact hp _ h1.2
    · exact (List.getElem?_eq_some_iff.1 h2).1
theorem nat_le {L : List Nat} {N : Nat} (hn : L.Nodup) (h : ∀ m ∈ L, m ≤ N) : L.length ≤ N + 1 := by
  have := nodup_le_of (V := L) (L := List.range (N + 1)) hn fun m hm => List.mem_range.2 (by have := h m hm; omega)
  simpa using this
end
/-! The table of parts. -/
def addP (hs : List Part) (x : Part) : List Part := if hs.contains x then hs else hs ++ [x]
end Go.Proofs.YtdejcdmgcckmoaaGreatDoor
namespace Go.Proofs.YtdejcdmgcckmoaaGreatDoor
open Lr

theorem EndsR.mono {g : Gram} {hs hs' : List Part} {w : List Str} (h : ∀ x ∈ hs, x ∈ hs') {l : List Str} {a b : Nat} (he : EndsR g hs w l a b) : EndsR g hs' w l a b := by
  induction he with
  | nil => exact .nil
  | term h1 h2 _ ih => exact .term h1 h2 ih
  | head h1 h2 _ ih => exact .head h1 (h _ h2) ih
/-- A pass over the productions: hsS as it began, hs now; the first k productions are done, and of the k-th the first a places. -/
structure HasP (g : Gram) (w : List Str) (hsS hs : List Part) (ch : Bool) (k a : Nat) : Prop where
  ok : PartsOk g w hs
  nd : hs.Nodup
  sub : ∀ x ∈ hsS, x ∈ hs
  same : ch = false → hs = hsS
  grow : ch = true → hsS.length < hs.length
  fin : ∀ (i : Nat) (p : Prd) (b c : Nat), g[i]? = some p → ((i < k ∧ b ≤ w.length) ∨ (i = k ∧ b < a)) → EndsR g hsS w p.2 b c → (p.1, b, c) ∈ hs
/-- One production at one place: hs0 as it began, T what its body may end at, m of them done. -/
structure HasQ (g : Gram) (w : List Str) (hsS hs : List Part) (ch : Bool) (k a : Nat) (A : Str) (T : List Nat) (m : Nat) : Prop extends HasP g w hsS hs ch k a where
  inn : ∀ t ∈ T.take m, (A, a, t) ∈ hs
section
variable {g : Gram} {w : List Str} {hsS hs : List Part} {ch : Bool} {k a : Nat}
theorem HasP.init (h : PartsOk g w hs) (hn : hs.Nodup) : HasP g w hs hs false 0 0 :=
  ⟨h, hn, fun _ h => h, fun _ => rfl, (fun h => by cases h), fun i p b c _ h => by omega⟩
theorem HasP.step (h : HasP g w hsS hs ch k a) {A : Str} {b : List Str} (hk : g[k]? = some (A, b)) {T : List Nat} (hT : ∀ t, EndsR g hsS w b a t → t ∈ T) (hq : ∀ t ∈ T, (A, a, t) ∈ hs) : HasP g w hsS hs ch k (a + 1) := by
  refine ⟨h.ok, h.nd, h.sub, h.same, h.grow, fun i p c d hp hi he => ?_⟩
  by_cases e : i = k ∧ c = a
  · obtain ⟨rfl, rfl⟩ := e
    rw [hk] at hp
    cases hp
    exact hq d (hT d he)
  · exact h.fin i p c d hp (by omega) he
theorem HasP.next (h : HasP g w hsS hs ch k a) (ha : w.length < a) : HasP g w hsS hs ch (k + 1) 0 :=
  ⟨h.ok, h.nd, h.sub, h.same, h.grow, fun i p c d hp hi he => h.fin i p c d hp (by omega) he⟩
theorem HasP.closed (h : HasP g w hsS hs false k a) (hk : g.length ≤ k) : ClosedH g w hs := by
  intro p hp b c hb he
  obtain ⟨i, hi⟩ := List.getElem?_of_mem hp
  have hil := (List.getElem?_eq_some_iff.1 hi).1
  rw [h.same rfl] at he
  exact h.fin i p b c hi (.inl ⟨by omega, hb⟩) he
theorem HasQ.start (h : HasP g w hsS hs ch k a) (A : Str) (T : List Nat) : HasQ g w hsS hs ch k a A T 0 := ⟨h, by simp⟩
theorem HasQ.old {A : Str} {T : List Nat} {m : Nat} (h : HasQ g w hsS hs ch k a A T m) (hm : m < T.length) (hx : (A, a, T[m]) ∈ hs) : HasQ g w hsS hs ch k a A T (m + 1) := by
  refine ⟨h.toHasP, fun t ht => ?_⟩
  rw [List.take_succ_eq_append_getElem hm] at ht
  rcases List.mem_append.1 ht with ht | ht
  · exact h.inn t ht
  · simp at ht; rw [ht]; exact hx
theorem HasQ.new {A : Str} {b : List Str} {T : List Nat} {m : Nat} (h : HasQ g w hsS hs ch k a A T m) (hk : g[k]? = some (A, b)) (ha : a ≤ w.length) (hm : m < T.length) (hx : (A, a, T[m]) ∉ hs) (he : EndsR g hs w b a T[m]) : HasQ g w hsS (hs ++ [(A, a, T[m])]) true k a A T (m + 1) := by
  have hmem : (A, b) ∈ g := List.mem_of_getElem? hk
  obtain ⟨h1, h2, n, h3⟩ := he.sound h.ok ha
  have hle : hsS.length ≤ hs.length := by
    cases ch with
    | false => rw [h.same rfl]; exact Nat.le_refl _
    | true => exact Nat.le_of_lt (h.grow rfl)
  refine ⟨⟨⟨fun B c d hB => ?_, fun B c d hB => ?_⟩, ?_, fun x hx => List.mem_append.2 (.inl (h.sub x hx)), (fun e => by cases e), fun _ => by simp; omega, fun i p c d hp hi he => List.mem_append.2 (.inl (h.fin i p c d hp hi he))⟩, fun t ht => ?_⟩
  · rcases List.mem_append.1 hB with hB | hB
    · exact h.ok.le B c d hB
    · simp at hB; obtain ⟨rfl, rfl, rfl⟩ := hB; exact ⟨h1, h2⟩
  · rcases List.mem_append.1 hB with hB | hB
    · exact h.ok.der B c d hB
    · simp at hB; obtain ⟨rfl, rfl, rfl⟩ := hB
      exact ⟨isHead_iff.2 ⟨b, hmem⟩, n + 1, D.one hmem h3⟩
  · rw [List.nodup_append]
    refine ⟨h.nd, by simp, fun x hx' y hy e => ?_⟩
    simp at hy
    subst hy; subst e
    exact hx hx'
  · rw [List.take_succ_eq_append_getElem hm] at ht
    rcases List.mem_append.1 ht with ht | ht
    · exact List.mem_append.2 (.inl (h.inn t ht))
    · simp at ht; rw [ht]; simp
theorem HasQ.done {A : Str} {b : List Str} {T : List Nat} {m : Nat} (h : HasQ g w hsS hs ch k a A T m) (hk : g[k]? = some (A, b)) (hm : T.length ≤ m) (hT : ∀ t, EndsR g hsS w b a t → t ∈ T) : HasP g w hsS hs ch k (a + 1) :=
  h.toHasP.step hk hT fun t ht => h.inn t (by rw [List.take_of_length_le hm]; exact ht)
/-- How many parts there may be. -/
theorem parts_le (hn : hs.Nodup) (h : PartsOk g w hs) (hg : g.length ≤ 12) (hw : w.length ≤ 12) : hs.length ≤ 2028 := by
  have h1 := nodup_le_of (V := hs) (L := (headsF g).flatMap fun A => (List.range 13).flatMap fun a => (List.range 13).map fun b => (A, a, b)) hn fun x hx => by
    obtain ⟨A, a, b⟩ := x
    have h2 := h.le A a b hx
    exact List.mem_flatMap.2 ⟨A, headsF_mem.2 (h.der A a b hx).1, List.mem_flatMap.2 ⟨a, List.mem_range.2 (by omega), List.mem_map.2 ⟨b, List.mem_range.2 (by omega), rfl⟩⟩⟩
  have key : ∀ H : List Str, (H.flatMap fun A => (List.range 13).flatMap fun a => (List.range 13).map fun b => (A, a, b)).length = 169 * H.length := by
    intro H
    induction H with
    | nil => rfl
    | cons A H ih =>
      have h1 : ((List.range 13).flatMap fun a => (List.range 13).map fun b => (A, a, b)).length = 169 := rfl
      rw [List.flatMap_cons, List.length_append, ih, List.length_cons, h1]; omega
  rw [key] at h1
  have := headsF_len g
  omega
end
end Go.Proofs.YtdejcdmgcckmoaaGreatDoor

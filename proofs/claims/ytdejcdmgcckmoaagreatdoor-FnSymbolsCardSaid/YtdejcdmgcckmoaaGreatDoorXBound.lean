/- A word that is derived at all is derived in few steps. -/
import Derived.Test.YtdejcdmgcckmoaaGreatDoorXLr
namespace Lr
variable {g : Gram}

theorem nodup_le : ∀ {V L : List Str}, V.Nodup → (∀ x ∈ V, x ∈ L) → V.length ≤ L.length
  | [], L, _, _ => Nat.zero_le _
  | x :: V, L, h, hs => by
    have hx := hs x (List.mem_cons_self ..)
    have h2 := List.nodup_cons.1 h
    have := nodup_le (V := V) (L := L.erase x) h2.2 (fun y hy => (List.mem_erase_of_ne (fun e => h2.1 (by rw [← e]; exact hy))).2 (hs y (List.mem_cons_of_mem _ hy)))
    have hl := List.length_erase_of_mem hx
    have : 0 < L.length := List.length_pos_of_mem hx
    simp only [List.length_cons]
    omega

structure Lite (g : Gram) : Prop where
  len : g.length ≤ 12
  body : ∀ p ∈ g, p.2.length ≤ 4
  eps : ∀ A n, D g n [A] [] → ∃ n', n' ≤ 10 ∧ D g n' [A] []

theorem Lite.epsList (hL : Lite g) : ∀ {l : List Str} {n : Nat}, D g n l [] → ∃ n', n' ≤ 10 * l.length ∧ D g n' l []
  | [], _, _ => ⟨0, by simp, .nil⟩
  | X :: l, n, h => by
    obtain ⟨n1, n2, x1, x2, e, _, h1, h2⟩ := D.split (l := [X]) (l' := l) h
    obtain ⟨rfl, rfl⟩ := List.append_eq_nil_iff.1 e.symm
    obtain ⟨k1, hk1, hd1⟩ := hL.eps X n1 h1
    obtain ⟨k2, hk2, hd2⟩ := hL.epsList h2
    exact ⟨k1 + k2, by simp; omega, hd1.append hd2⟩

/-- Small derivations of every nonempty row of fewer than m terminals. -/
def SmallTo (g : Gram) (m : Nat) : Prop := ∀ A x n, x ≠ [] → x.length < m → D g n [A] x → ∃ n', n' + 372 ≤ 744 * x.length ∧ D g n' [A] x

set_option maxRecDepth 20000 in
theorem forest (hL : Lite g) {m : Nat} (hS : SmallTo g m) {n : Nat} {l x : List Str} (h : D g n l x) : x.length ≤ m →
    (x.length = m ∧ x ≠ [] ∧ ∃ l1 A l2 k1 k k2, l = l1 ++ A :: l2 ∧ isHead g A = true ∧ n = k1 + k + k2 ∧ D g k1 l1 [] ∧ D g k [A] x ∧ D g k2 l2 []) ∨
    (∃ n' h e t y, D g n' l x ∧ n' + 372 * h ≤ 10 * e + 744 * y ∧ e + h + t = l.length ∧ x.length = y + t ∧ (h = 1 → y < m) ∧ (h = 0 → y = 0)) := by
  induction h with
  | nil => intro _; exact .inr ⟨0, 0, 0, 0, 0, .nil, by omega, by simp, by simp, by omega, by omega⟩
  | @term t n l x ht _ ih =>
    intro hm
    simp at hm
    rcases ih (by omega) with ⟨e, _⟩ | ⟨n', h, e, t', y, h1, h2, h3, h4, h5, h6⟩
    · omega
    · exact .inr ⟨n', h, e, t' + 1, y, .term ht h1, h2, by simp; omega, by simp; omega, h5, h6⟩
  | @head A b l x y n k hmem h1 h2 _ ih2 =>
    intro hm
    simp at hm
    have hA : isHead g A = true := isHead_iff.2 ⟨b, hmem⟩
    have hone : D g (n + 1) [A] x := D.one hmem h1
    cases x with
    | nil =>
      obtain ⟨n0, hn0, hd0⟩ := hL.eps A _ hone
      rcases ih2 (by simpa using hm) with ⟨e1, e2, l1, B, l2, k1, k', k2, rfl, hB, rfl, g1, g2, g3⟩ | ⟨n', h, e, t', y', g1, g2, g3, g4, g5, g6⟩
      · refine .inl ⟨by simpa using e1, by simpa using e2, A :: l1, B, l2, n + 1 + k1, k', k2, rfl, hB, by omega, ?_, by simpa using g2, g3⟩
        simpa using hone.append g1
      · exact .inr ⟨n0 + n', h, e + 1, t', y', by simpa using hd0.append g1, by omega, by simp; omega, by simpa using g4, g5, g6⟩
    | cons c x =>
      by_cases hlt : (c :: x).length < m
      · obtain ⟨n0, hn0, hd0⟩ := hS A _ _ (by simp) hlt hone
        rcases ih2 (by simp at hm; omega) with ⟨e1, e2, _⟩ | ⟨n', h, e, t', y', g1, g2, g3, g4, g5, g6⟩
        · simp at hm; omega
        · have hxl : (c :: x ++ y).length = (c :: x).length + y.length := List.length_append
          obtain ⟨q, hq⟩ : ∃ q, (c :: x).length = q := ⟨_, rfl⟩
          rw [hq] at hn0 hxl hlt
          have e1 : n0 + n' + 372 * (h + 1) ≤ 10 * e + 744 * (y' + q) := by clear hq hxl g5 g6 g3 hm ih2; omega
          refine .inr ⟨n0 + n', h + 1, e, t', y' + q, hd0.append g1, e1, by simp only [List.length_cons]; omega, by omega, ?_, by omega⟩
          intro hh
          have := g6 (by omega)
          omega
      · have hy : y = [] := by
          apply List.eq_nil_of_length_eq_zero
          simp at hm hlt; omega
        subst hy
        refine .inl ⟨by simp at hm hlt ⊢; omega, by simp, [], A, l, 0, n + 1, k, rfl, hA, by omega, .nil, by simpa using hone, h2⟩

theorem exists_min {P : Nat → Prop} : ∀ n, P n → ∃ k, k ≤ n ∧ P k ∧ ∀ j, P j → k ≤ j := by
  intro n
  induction n using Nat.strongRecOn with
  | _ n ih =>
    intro hn
    by_cases h : ∃ j, j < n ∧ P j
    · obtain ⟨j, hj, hP⟩ := h
      obtain ⟨k, h1, h2, h3⟩ := ih j hj hP
      exact ⟨k, by omega, h2, h3⟩
    · exact ⟨n, Nat.le_refl _, hn, fun j hj => Nat.le_of_not_lt fun hlt => h ⟨j, hlt, hj⟩⟩

theorem heads_mem {A : Str} (h : isHead g A = true) : A ∈ g.map (·.1) := by
  obtain ⟨b, hb⟩ := isHead_iff.1 h
  exact List.mem_map.2 ⟨_, hb, rfl⟩

theorem visited (hL : Lite g) {A : Str} {V : List Str} (hA : isHead g A = true) (hn : A ∉ V) (hV : V.Nodup) (hH : ∀ B ∈ V, isHead g B = true) : V.length + 1 ≤ 12 := by
  have := nodup_le (V := A :: V) (L := g.map (·.1)) (List.nodup_cons.2 ⟨hn, hV⟩) (fun x hx => by
    rcases List.mem_cons.1 hx with rfl | hx
    · exact heads_mem hA
    · exact heads_mem (hH x hx))
  simp at this
  have := hL.len
  omega

set_option maxRecDepth 20000 in
theorem chain (hL : Lite g) {m : Nat} (hm : 0 < m) (hS : SmallTo g m) (x : List Str) (hx : x.length = m) : ∀ (n : Nat) (V : List Str) (A : Str), V.Nodup → (∀ B ∈ V, isHead g B = true ∧ ∃ k, (D g k [B] x ∧ ∀ j, D g j [B] x → k ≤ j) ∧ n < k) →
    D g n [A] x → (∀ j, D g j [A] x → n ≤ j) → n ≤ 31 * (12 - V.length) + 372 * (2 * m - 2) := by
  intro n
  induction n using Nat.strongRecOn with
  | _ n ih =>
    intro V A hV hB hd hmin
    cases hd with
    | term ht h => cases h; exact Nat.zero_le _
    | @head _ b _ x' y' nb mb hmem h1 h2 =>
      cases h2
      simp only [List.append_nil] at *
      have hA : isHead g A = true := isHead_iff.2 ⟨b, hmem⟩
      have hAV : A ∉ V := fun hin => by
        obtain ⟨_, k, ⟨hk1, hk2⟩, hlt⟩ := hB A hin
        have := hk2 _ (D.one hmem h1)
        omega
      have hV12 := visited hL hA hAV hV (fun B h => (hB B h).1)
      have hb4 := hL.body _ hmem
      simp only at hb4
      rcases forest hL hS h1 (by omega) with ⟨_, _, l1, X, l2, k1, k, k2, rfl, hX, hk, d1, d2, d3⟩ | ⟨n', h, e, t, y, g1, g2, g3, g4, g5, g6⟩
      · obtain ⟨nX, hle, hX1, hX2⟩ := exists_min (P := fun j => D g j [X] x') k d2
        obtain ⟨e1, he1, c1⟩ := hL.epsList d1
        obtain ⟨e2, he2, c2⟩ := hL.epsList d3
        have hnew := D.one hmem (c1.append ((show D g nX [X] x' from hX1).append c2))
        simp at hnew
        have hle2 := hmin _ (by simpa using hnew)
        have := ih nX (by omega) (A :: V) X (List.nodup_cons.2 ⟨hAV, hV⟩) (fun B hin => by
          rcases List.mem_cons.1 hin with rfl | hin
          · exact ⟨hA, _, ⟨D.one hmem h1, fun j hj => by have := hmin j hj; omega⟩, by omega⟩
          · obtain ⟨q1, kk, q2, q3⟩ := hB B hin
            exact ⟨q1, kk, q2, by omega⟩) hX1 hX2
        simp at hb4 this
        omega
      · have hle2 := hmin _ (D.one hmem g1)
        rcases Nat.lt_trichotomy h 1 with h0 | h0 | h0
        · have := g6 (by omega)
          omega
        · have := g5 h0
          omega
        · omega

theorem small_to (hL : Lite g) : ∀ m, SmallTo g m
  | 0 => fun _ _ _ _ h => absurd h (Nat.not_lt_zero _)
  | m + 1 => by
    intro A x n hx hlt hd
    by_cases h : x.length < m
    · exact small_to hL m A x n hx h hd
    · have hxm : x.length = m := by omega
      have h0 : 0 < m := by rw [← hxm]; exact List.length_pos_iff.2 hx
      obtain ⟨k, _, hk, hmin⟩ := exists_min (P := fun j => D g j [A] x) n hd
      have := chain hL h0 (small_to hL m) x hxm k [] A List.nodup_nil (by simp) hk hmin
      simp at this
      exact ⟨k, by rw [hxm]; omega, hk⟩

/-- Whatever derives, derives by few productions. -/
theorem small (hL : Lite g) {A : Str} {x : List Str} {n : Nat} (h : D g n [A] x) : ∃ n', n' ≤ 10 + 744 * x.length - 372 * (if x = [] then 0 else 1) ∧ D g n' [A] x := by
  by_cases hx : x = []
  · subst hx
    obtain ⟨n', h1, h2⟩ := hL.eps A n h
    exact ⟨n', by simpa using h1, h2⟩
  · obtain ⟨n', h1, h2⟩ := small_to hL (x.length + 1) A x n hx (by omega) h
    exact ⟨n', by rw [if_neg hx]; omega, h2⟩

set_option maxRecDepth 20000 in
theorem smallList (hL : Lite g) {l x : List Str} {n : Nat} (h : D g n l x) (hl : l.length ≤ 3) : ∃ n', D g n' l x ∧ n' + (if x = [] then 0 else 382) ≤ 30 + 744 * x.length := by
  rcases forest hL (small_to hL (x.length + 1)) h (by omega) with ⟨e, _⟩ | ⟨n', h, e, t, y, g1, g2, g3, g4, g5, g6⟩
  · omega
  · refine ⟨n', g1, ?_⟩
    by_cases hx : x = []
    · subst hx
      simp at g4 ⊢
      omega
    · rw [if_neg hx]
      have := List.length_pos_iff.2 hx
      by_cases h0 : h = 0
      · have := g6 h0; omega
      · omega

theorem Pt.parts {n : Nat} {l u : List Str} {a : Str} (h : Pt g n l u a) : ∃ l1 Y l2 u1 u2 k1 k2, l = l1 ++ Y :: l2 ∧ D g k1 l1 u1 ∧ u = u1 ++ u2 ∧ n = k1 + k2 ∧
    ((Y = a ∧ u2 = [] ∧ isHead g a = false) ∨ (isHead g Y = true ∧ Pt g k2 [Y] u2 a)) := by
  induction h with
  | @term t l ht => exact ⟨[], t, l, [], [], 0, 0, rfl, .nil, rfl, rfl, .inl ⟨rfl, rfl, ht⟩⟩
  | @head A a b l u n hm h _ => exact ⟨[], A, l, [], u, 0, n + 1, rfl, .nil, rfl, by omega, .inr ⟨isHead_iff.2 ⟨b, hm⟩, .head hm h⟩⟩
  | @skipT t a l u n ht h ih =>
    obtain ⟨l1, Y, l2, u1, u2, k1, k2, rfl, h1, rfl, rfl, h2⟩ := ih
    exact ⟨t :: l1, Y, l2, t :: u1, u2, k1, k2, rfl, .term ht h1, rfl, rfl, h2⟩
  | @skipH A a b l x u n m hm h0 h ih =>
    obtain ⟨l1, Y, l2, u1, u2, k1, k2, rfl, h1, rfl, rfl, h2⟩ := ih
    exact ⟨A :: l1, Y, l2, x ++ u1, u2, n + k1 + 1, k2, rfl, .head hm h0 h1, by simp, by omega, h2⟩

theorem Pt.join {k1 k2 : Nat} {l1 l2 u1 u2 : List Str} {Y a : Str} (h1 : D g k1 l1 u1) (h2 : (Y = a ∧ u2 = [] ∧ isHead g a = false ∧ k2 = 0) ∨ Pt g k2 [Y] u2 a) : Pt g (k1 + k2) (l1 ++ Y :: l2) (u1 ++ u2) a := by
  induction h1 with
  | nil =>
    rcases h2 with ⟨rfl, rfl, ht, rfl⟩ | h
    · exact .term ht
    · simpa using h.right (l' := l2)
  | term ht _ ih => exact .skipT ht (ih)
  | @head A b l x y n m hm h0 _ _ ih =>
    have := Pt.skipH hm h0 ih
    have e : n + (m + k2) + 1 = n + m + 1 + k2 := by omega
    rw [e] at this
    simpa using this

set_option maxRecDepth 20000 in
theorem chainP (hL : Lite g) (a : Str) (u : List Str) (hS : ∀ A v n, v.length < u.length → Pt g n [A] v a → ∃ n', n' ≤ 372 * (2 * v.length + 1) ∧ Pt g n' [A] v a) :
    ∀ (n : Nat) (V : List Str) (A : Str), V.Nodup → (∀ B ∈ V, isHead g B = true ∧ ∃ k, (Pt g k [B] u a ∧ ∀ j, Pt g j [B] u a → k ≤ j) ∧ n < k) →
    Pt g n [A] u a → (∀ j, Pt g j [A] u a → n ≤ j) → n ≤ 31 * (12 - V.length) + 744 * u.length := by
  intro n
  induction n using Nat.strongRecOn with
  | _ n ih =>
    intro V A hV hB hd hmin
    cases hd with
    | term ht => exact Nat.zero_le _
    | skipT _ h => cases h
    | skipH _ _ h => cases h
    | @head _ _ b _ _ nb hmem h1 =>
      have hA : isHead g A = true := isHead_iff.2 ⟨b, hmem⟩
      have hAV : A ∉ V := fun hin => by
        obtain ⟨_, k, ⟨hk1, hk2⟩, hlt⟩ := hB A hin
        have := hk2 _ (Pt.head (l := []) hmem h1)
        omega
      have hV12 := visited hL hA hAV hV (fun B h => (hB B h).1)
      have hb4 := hL.body _ hmem
      simp only at hb4
      obtain ⟨l1, Y, l2, u1, u2, k1, k2, rfl, d1, rfl, rfl, hY⟩ := h1.parts
      simp at hb4
      obtain ⟨n1, c1, hn1⟩ := smallList hL d1 (by omega)
      have fin : ∀ k2', ((Y = a ∧ u2 = [] ∧ isHead g a = false ∧ k2' = 0) ∨ Pt g k2' [Y] u2 a) → k1 + k2 + 1 ≤ n1 + k2' + 1 := fun k2' h =>
        hmin _ (Pt.head (l := []) hmem (Pt.join (l2 := l2) c1 h))
      by_cases hu1 : u1 = []
      · subst hu1
        simp at hn1
        rcases hY with ⟨rfl, rfl, ht⟩ | ⟨hYh, hP⟩
        · have := fin 0 (.inl ⟨rfl, rfl, ht, rfl⟩)
          omega
        · obtain ⟨nY, hle, hY1, hY2⟩ := exists_min (P := fun j => Pt g j [Y] u2 a) k2 hP
          have hf := fin nY (.inr hY1)
          have := ih nY (by omega) (A :: V) Y (List.nodup_cons.2 ⟨hAV, hV⟩) (fun B hin => by
            rcases List.mem_cons.1 hin with rfl | hin
            · exact ⟨hA, _, ⟨Pt.head (l := []) hmem h1, hmin⟩, by omega⟩
            · obtain ⟨q1, kk, q2, q3⟩ := hB B hin
              exact ⟨q1, kk, q2, by omega⟩) hY1 hY2
          simp at this ⊢
          omega
      · rw [if_neg hu1] at hn1
        have hpos := List.length_pos_iff.2 hu1
        rcases hY with ⟨rfl, rfl, ht⟩ | ⟨hYh, hP⟩
        · have := fin 0 (.inl ⟨rfl, rfl, ht, rfl⟩)
          simp
          omega
        · obtain ⟨n2, hn2, hd2⟩ := hS Y u2 _ (by simp; omega) hP
          have := fin n2 (.inr hd2)
          simp
          omega

theorem smallP (hL : Lite g) (a : Str) : ∀ (m : Nat) (A : Str) (u : List Str) (n : Nat), u.length < m → Pt g n [A] u a → ∃ n', n' ≤ 372 * (2 * u.length + 1) ∧ Pt g n' [A] u a
  | 0, _, _, _, h, _ => absurd h (Nat.not_lt_zero _)
  | m + 1, A, u, n, h, hd => by
    obtain ⟨k, _, hk, hmin⟩ := exists_min (P := fun j => Pt g j [A] u a) n hd
    have := chainP hL a u (fun A v n hv hP => smallP hL a m A v n (by omega) hP) k [] A List.nodup_nil (by simp) hk hmin
    simp at this
    exact ⟨k, by omega, hk⟩
end Lr

/- The package's actions against what is said; the laws of the tables, over plain lists. -/
import Derived.Test.YtdejcdmgcckmoaaGreatDoorYDD
import Derived.Test.YtdejcdmgcckmoaaGreatDoorYFF
import Derived.Test.YtdejcdmgcckmoaaGreatDoorYAA
namespace Go.Proofs.YtdejcdmgcckmoaaGreatDoor
open Lr

/-! A state's actions, as the package meets them, and what the reference says of them. -/
/-- A terminal as the package names it. -/
def TrmS (g : Gram) (t : Str) : Prop := t = eofS ∨ (symbolOkB t = true ∧ isHead g t = false)
theorem told_end : toldS eofS = endS := by decide
theorem TrmS.ne {g : Gram} {t : Str} (h : TrmS g t) : t ≠ [] := by
  rcases h with rfl | ⟨h, _⟩
  · decide
  · intro e; subst e; exact absurd h (by decide)
theorem told_ok {t : Str} (h : symbolOkB t = true) : toldS t = t := by unfold toldS; rw [if_neg (letters_ne h).2.1]
theorem ok_ne_end {t : Str} (h : symbolOkB t = true) : t ≠ endS := fun e => by subst e; exact absurd h (by decide)
theorem TrmS.inj {g : Gram} {t u : Str} (h : TrmS g t) (k : TrmS g u) (e : toldS t = toldS u) : t = u := by
  rcases h with rfl | ⟨h, _⟩ <;> rcases k with rfl | ⟨k, _⟩
  · rfl
  · rw [told_end, told_ok k] at e; exact absurd e.symm (ok_ne_end k)
  · rw [told_end, told_ok h] at e; exact absurd e (ok_ne_end h)
  · rwa [told_ok h, told_ok k] at e
theorem untold_eq {g : Gram} (hm : Sm g) {c t : Str} (hc : c ∈ looksU g) (ht : TrmS g t) : untold c = t ↔ c = toldS t := by
  constructor
  · intro e; rw [← e, told_untold hm hc]
  · rintro rfl
    unfold untold
    rcases ht with rfl | ⟨h, _⟩
    · rw [told_end, if_pos rfl]
    · rw [told_ok h, if_neg (ok_ne_end h)]
theorem untold_end {g : Gram} (hm : Sm g) {c : Str} (hc : c ∈ looksU g) : untold c = eofS ↔ c = endS := by
  rw [untold_eq hm hc (.inl rfl), told_end]
theorem getD_ok {g : Gram} {i : Itm} {t : Str} (ht : t ≠ []) (h : t = (Lr.body g i.prod).getD i.dot []) : i.dot < (Lr.body g i.prod).length ∧ i.rest g = t :: (Lr.body g i.prod).drop (i.dot + 1) := by
  by_cases hd : i.dot < (Lr.body g i.prod).length
  · refine ⟨hd, ?_⟩
    unfold Itm.rest
    rw [List.drop_eq_getElem_cons hd]
    congr 1
    rw [h, List.getD, List.getElem?_eq_getElem hd]; rfl
  · rw [List.getD, List.getElem?_eq_none (by omega)] at h
    exact absurd h ht
theorem getD_rest {g : Gram} {i : Itm} {t : Str} {δ : List Str} (h : i.rest g = t :: δ) : i.dot < (Lr.body g i.prod).length ∧ t = (Lr.body g i.prod).getD i.dot [] := by
  unfold Itm.rest at h
  have hl : i.dot < (Lr.body g i.prod).length := by
    apply Nat.lt_of_not_le
    intro hle
    rw [List.drop_of_length_le hle] at h
    cases h
  refine ⟨hl, ?_⟩
  rw [List.drop_eq_getElem_cons hl] at h
  rw [List.getD, List.getElem?_eq_getElem hl]
  exact (List.cons.inj h).1.symm
section
variable {g : Gram} {γ : List Str} {l : List Itm} {t : Str} {n : Nat}
theorem acts_acc (hl : ∀ i, i ∈ l ↔ Vld g γ i) (ht : TrmS g t) : Actn.acc ∈ actsI g t n l ↔ Says g γ (toldS t) .accept := by
  unfold actsI
  rw [List.mem_map]
  constructor
  · rintro ⟨i, hi, e⟩
    have hv := (hl i).1 hi
    unfold actI actC at e
    split at e
    · rename_i hc
      obtain ⟨h1, h2, h3, rfl⟩ := hc
      obtain ⟨ip, id, il⟩ := i
      cases ip with
      | some p => simp [idxI] at h1
      | none =>
        obtain ⟨_, hz⟩ := hv.zero rfl
        simp only at hz h2
        subst hz
        have h4 := hv.rest_le
        simp [Lr.body] at h2 h4
        obtain rfl : id = 1 := by omega
        exact ⟨told_end, hv⟩
    · split at e
      · cases e
      · split at e <;> cases e
  · rintro ⟨h1, hv⟩
    have h2 : t = eofS := by
      rcases ht with h | ⟨h, _⟩
      · exact h
      · rw [told_ok h] at h1; exact absurd h1 (ok_ne_end h)
    subst h2
    refine ⟨_, (hl _).2 hv, ?_⟩
    unfold actI actC
    exact if_pos ⟨rfl, by simp [Lr.body], by decide, rfl⟩
theorem acts_red (hm : Sm g) (hl : ∀ i, i ∈ l ↔ Vld g γ i) (ht : TrmS g t) (m : Nat) : Actn.red m ∈ actsI g t n l ↔ ∃ p, m = p + 1 ∧ Says g γ (toldS t) (.reduce p) := by
  unfold actsI
  rw [List.mem_map]
  constructor
  · rintro ⟨i, hi, e⟩
    have hv := (hl i).1 hi
    unfold actI actC at e
    split at e
    · cases e
    · rename_i hc
      split at e
      · rename_i h
        obtain ⟨h2, h3⟩ := h
        have h3' := (untold_eq hm hv.look ht).1 h3
        obtain ⟨ip, id, il⟩ := i
        simp only at h2 h3 h3' hc e
        cases ip with
        | none =>
          exfalso
          obtain ⟨_, hz⟩ := hv.zero rfl
          simp only at hz
          subst hz
          have : t = eofS := by rw [← h3]; decide
          exact hc ⟨rfl, h2, by decide, this⟩
        | some p =>
          have h4 := hv.rest_le
          simp only at h4
          have h5 : id = (Lr.body g (some p)).length := by omega
          subst h5; subst h3'
          injection e with e
          exact ⟨p, e.symm, _, _, some_body (hv.lt rfl), hv⟩
      · split at e <;> cases e
  · rintro ⟨p, rfl, A, b, hp, hv⟩
    have hb : Lr.body g (some p) = b := by simp [Lr.body, hp]
    refine ⟨_, (hl _).2 hv, ?_⟩
    unfold actI actC
    rw [if_neg (by simp [idxI]), if_pos ⟨by rw [hb]; exact Nat.le_refl _, (untold_eq hm hv.look ht).2 rfl⟩]
    rfl
theorem acts_sh (hm : Sm g) (hl : ∀ i, i ∈ l ↔ Vld g γ i) (ht : TrmS g t) (m : Nat) : Actn.sh m ∈ actsI g t n l ↔ m = n ∧ Says g γ (toldS t) .shift := by
  unfold actsI
  rw [List.mem_map]
  constructor
  · rintro ⟨i, hi, e⟩
    have hv := (hl i).1 hi
    unfold actI actC at e
    split at e
    · cases e
    · split at e
      · cases e
      · split at e
        · rename_i h
          obtain ⟨h1, h2⟩ := getD_ok ht.ne h
          injection e with e
          have hok := symIn_ok hm (body_sym (rest_body h2))
          have hh : isHead g t = false := by
            rcases ht with rfl | ⟨_, h⟩
            · exact absurd rfl (letters_ne hok).2.1
            · exact h
          rw [told_ok hok]
          exact ⟨e.symm, hh, i, _, hv, h2⟩
        · cases e
  · rintro ⟨rfl, hh, i, δ, hv, hr⟩
    have hok := symIn_ok hm (body_sym (rest_body hr))
    have hts : toldS t = t := by
      rcases ht with rfl | ⟨h, _⟩
      · rw [told_end] at hok; exact absurd hok (by decide)
      · exact told_ok h
    rw [hts] at hr hh hok
    obtain ⟨h1, h2⟩ := getD_rest hr
    refine ⟨i, (hl i).2 hv, ?_⟩
    unfold actI actC
    rw [if_neg (by rintro ⟨_, h, _⟩; omega), if_neg (by rintro ⟨h, _⟩; omega), if_pos h2]
end
/-- Where the package's actions and the reference's are the same. -/
structure ActsOk (A : List Actn) (S : List KN) : Prop where
  nd : S.Nodup
  iff : ∀ y, y ∈ S ↔ ∃ x ∈ A, x ≠ .err ∧ x.kd = y
theorem kd_inj {x y : Actn} (hx : x ≠ .err) (hy : y ≠ .err) (e : x.kd = y.kd) : x = y := by
  cases x <;> cases y <;> simp [Actn.kd] at e hx hy ⊢ <;> omega
open Classical in
/-- Where a state's edge leads to; nought where there is none. -/
noncomputable def nF (g : Gram) (Γ : List (List Str)) (k : Nat) (X : Str) : Nat := if h : ∃ j, EdgeC g Γ k X j then Classical.choose h else 0
theorem nF_eq {g : Gram} {Γ : List (List Str)} (hG : GamOk g Γ) {k j : Nat} {X : Str} (h : EdgeC g Γ k X j) : nF g Γ k X = j := by
  unfold nF
  rw [dif_pos ⟨j, h⟩]
  exact (Classical.choose_spec (⟨j, h⟩ : ∃ j, EdgeC g Γ k X j)).uniq hG h
theorem nF_none {g : Gram} {Γ : List (List Str)} {k : Nat} {X : Str} (h : ¬ ∃ j, EdgeC g Γ k X j) : nF g Γ k X = 0 := by
  unfold nF; rw [dif_neg h]
theorem acts_ok {g : Gram} (hm : Sm g) {Γ : List (List Str)} {a : List (List Itm)} {E : List Edg} (hT : Lr.Told g Γ a E) {i : Nat} {γ : List Str} (hγ : Γ[i]? = some γ) {l l' : List Itm} (hl : ∀ x, x ∈ l ↔ Vld g γ x) (hl' : ∀ x, x ∈ l' ↔ Vld g γ x) {t : Str} (ht : TrmS g t) :
    ActsOk (actsI g t (nF g Γ i t) l) (saidF g l' E i (toldS t)) := by
  refine ⟨saidF_nodup .., fun y => ?_⟩
  have hsh : ∀ j, (i, toldS t, j) ∈ E → greatB (toldS t) = false → Says g γ (toldS t) .shift ∧ nF g Γ i t = j := fun j h1 h2 => by
    have he : EdgeC g Γ i (toldS t) j := (hT.edges (i, toldS t, j)).1 h1
    have hs := (said_shift hm hT hγ l' (toldS t)).1 ⟨j, said_sh.2 ⟨j, rfl, h1, h2⟩⟩
    have hok : symbolOkB (toldS t) = true := by
      obtain ⟨_, x, δ, _, hr⟩ := hs
      exact symIn_ok hm (body_sym (rest_body hr))
    have hts : toldS t = t := by
      rcases ht with rfl | ⟨h, _⟩
      · rw [told_end] at hok; exact absurd hok (by decide)
      · exact told_ok h
    refine ⟨hs, ?_⟩
    rw [hts] at he
    exact nF_eq hT.full.toGamOk he
  constructor
  · intro hy
    rcases said_kinds hy with ⟨j, rfl⟩ | ⟨p, rfl⟩ | rfl
    · obtain ⟨j', e, h1, h2⟩ := said_sh.1 hy
      obtain rfl : j = j' := by omega
      obtain ⟨h3, h4⟩ := hsh j h1 h2
      exact ⟨.sh j, (acts_sh hm hl ht j).2 ⟨h4.symm, h3⟩, by simp, rfl⟩
    · obtain ⟨p', e, h1⟩ := (said_red hm hl' E i (toldS t) _).1 hy
      obtain rfl : p = p' := by omega
      exact ⟨.red (p + 1), (acts_red hm hl ht _).2 ⟨p, rfl, h1⟩, by simp, by simp [Actn.kd]⟩
    · exact ⟨.acc, (acts_acc hl ht).2 ((said_acc hm hl' E i (toldS t)).1 hy), by simp, rfl⟩
  · rintro ⟨x, hx, h0, rfl⟩
    cases x with
    | err => exact absurd rfl h0
    | acc => exact (said_acc hm hl' E i (toldS t)).2 ((acts_acc hl ht).1 hx)
    | red m =>
      obtain ⟨p, rfl, h1⟩ := (acts_red hm hl ht m).1 hx
      have := (said_red hm hl' E i (toldS t) (p : Int)).2 ⟨p, rfl, h1⟩
      simpa [Actn.kd] using this
    | sh m =>
      obtain ⟨rfl, h1⟩ := (acts_sh hm hl ht m).1 hx
      obtain ⟨n, hn⟩ := (said_shift hm hT hγ l' (toldS t)).2 h1
      obtain ⟨j, rfl, h2, h3⟩ := said_sh.1 hn
      rw [(hsh j h2 h3).2]
      exact hn
/-- Nowhere accepting is said beside another action. -/
def NoStop (g : Gram) : Prop := ∀ γ, Says g γ endS .accept → ∀ p, ¬ Says g γ endS (.reduce p)
theorem idx_zero {q : Option Nat} : idxI q = 0 ↔ q = none := by cases q <;> simp [idxI]
theorem noStop_of {g : Gram} (hm : Sm g) (hN : NoStop g) {γ : List Str} {l : List Itm} (hl : ∀ i, i ∈ l ↔ Vld g γ i) : (stopA g l && decide (0 < stopO g l)) = false := by
  cases hA : stopA g l with
  | false => rfl
  | true =>
    rw [Bool.true_and]
    refine decide_eq_false fun h0 => ?_
    unfold stopA at hA
    obtain ⟨i, hi, h1⟩ := List.any_eq_true.1 hA
    simp only [atEndB, Bool.and_eq_true, decide_eq_true_eq] at h1
    obtain ⟨⟨h1, h2⟩, h3⟩ := h1
    unfold stopO at h0
    obtain ⟨j, hj, h4⟩ := List.countP_pos_iff.1 h0
    simp only [atEndB, Bool.and_eq_true, decide_eq_true_eq, Bool.not_eq_true', decide_eq_false_iff_not] at h4
    obtain ⟨⟨h4, h5⟩, h6⟩ := h4
    have hvi := (hl i).1 hi
    have hvj := (hl j).1 hj
    have hz := idx_zero.1 h3
    obtain ⟨_, hlk⟩ := hvi.zero hz
    have hsa : Says g γ endS .accept := by
      obtain ⟨ip, id, il⟩ := i
      simp only at hz hlk h1
      subst hz; subst hlk
      simp [Lr.body] at h1
      subst h1
      exact ⟨rfl, hvi⟩
    obtain ⟨jp, jd, jl⟩ := j
    simp only at h4 h5 h6
    cases jp with
    | none => exact h6 rfl
    | some p =>
      have hjl := (untold_end hm hvj.look).1 h5
      simp only at hjl
      subst hjl; subst h4
      exact hN γ hsa p ⟨_, _, some_body (hvj.lt rfl), hvj⟩
/-- The first of two by kind and number. -/
def leK (x y : KN) : Prop := x.1 < y.1 ∨ (x.1 = y.1 ∧ x.2 ≤ y.2)
theorem leA_kd {x y : Actn} (h : leA x y) : leK x.kd y.kd := by
  cases x <;> cases y <;> simp [leA, leK, Actn.kd] at h ⊢ <;> omega
/-- What stands, against what is said. -/
theorem met_said {A : List Actn} {S : List KN} (h : ActsOk A S) {st : Actn × Bool} (hM : MetA A st) : (st.1 = .err ↔ S = []) ∧ (st.1 ≠ .err → st.1.kd ∈ S ∧ ∀ y ∈ S, leK st.1.kd y) ∧ (st.2 = true ↔ 2 ≤ S.length) := by
  refine ⟨?_, fun h0 => ⟨(h.iff _).2 ⟨_, hM.mem h0, h0, rfl⟩, fun y hy => ?_⟩, ?_⟩
  · rw [hM.err]
    constructor
    · intro k
      cases S with
      | nil => rfl
      | cons y S =>
        obtain ⟨x, hx, h1, _⟩ := (h.iff y).1 (List.mem_cons_self ..)
        exact absurd (k x hx) h1
    · rintro rfl x hx
      apply Classical.byContradiction
      intro h1
      have := (h.iff x.kd).2 ⟨x, hx, h1, rfl⟩
      cases this
  · obtain ⟨x, hx, h1, rfl⟩ := (h.iff y).1 hy
    exact leA_kd (hM.le x hx h1)
  · rw [hM.cf]
    constructor
    · rintro ⟨x, hx, y, hy, h1, h2, h3⟩
      have e1 := (h.iff x.kd).2 ⟨x, hx, h1, rfl⟩
      have e2 := (h.iff y.kd).2 ⟨y, hy, h2, rfl⟩
      have hne : x.kd ≠ y.kd := fun e => h3 (kd_inj h1 h2 e)
      have := nodup_le_of (V := [x.kd, y.kd]) (L := S) (by simp [hne]) (fun z hz => by
        rcases List.mem_cons.1 hz with rfl | hz
        · exact e1
        · simp at hz; rw [hz]; exact e2)
      simpa using this
    · intro h2
      match S, h, h2 with
      | x :: y :: S, h, _ =>
        obtain ⟨a, ha, h1, e1⟩ := (h.iff x).1 (List.mem_cons_self ..)
        obtain ⟨b, hb, h2, e2⟩ := (h.iff y).1 (by simp)
        refine ⟨a, ha, b, hb, h1, h2, fun e => ?_⟩
        have hnd := h.nd
        rw [← e1, ← e2, e] at hnd
        simp at hnd
end Go.Proofs.YtdejcdmgcckmoaaGreatDoor
namespace Go.Proofs.YtdejcdmgcckmoaaGreatDoor
open Lr

/-! The table's rows, and what the laws ask of them. -/
def acOf (k : Nat) (t : Str) (a : Actn) : Ac := (k, toldS t, a.kd.1, a.kd.2)
def actRow (F : Str → Actn × Bool) (k : Nat) (T : List Str) : List Ac := T.flatMap fun t => if (F t).1 = .err then [] else [acOf k t (F t).1]
def clsRow (F : Str → Actn × Bool) (k : Nat) (T : List Str) : List (Nat × Str) := T.flatMap fun t => if (F t).2 then [(k, toldS t)] else []
def actsF (F : Nat → Str → Actn × Bool) (T : List Str) (N : Nat) : List Ac := (List.range N).flatMap fun k => actRow (F k) k T
def clsF (F : Nat → Str → Actn × Bool) (T : List Str) (N : Nat) : List (Nat × Str) := (List.range N).flatMap fun k => clsRow (F k) k T
theorem actsF_succ (F : Nat → Str → Actn × Bool) (T : List Str) (N : Nat) : actsF F T (N + 1) = actsF F T N ++ actRow (F N) N T := by
  unfold actsF; rw [List.range_succ, List.flatMap_append]; simp
theorem clsF_succ (F : Nat → Str → Actn × Bool) (T : List Str) (N : Nat) : clsF F T (N + 1) = clsF F T N ++ clsRow (F N) N T := by
  unfold clsF; rw [List.range_succ, List.flatMap_append]; simp
theorem actRow_take {F : Str → Actn × Bool} {k : Nat} {T : List Str} {j : Nat} (h : j < T.length) : actRow F k (T.take (j + 1)) = actRow F k (T.take j) ++ (if (F T[j]).1 = .err then [] else [acOf k T[j] (F T[j]).1]) := by
  unfold actRow; rw [List.take_succ_eq_append_getElem h, List.flatMap_append]; simp
theorem clsRow_take {F : Str → Actn × Bool} {k : Nat} {T : List Str} {j : Nat} (h : j < T.length) : clsRow F k (T.take (j + 1)) = clsRow F k (T.take j) ++ (if (F T[j]).2 then [(k, toldS T[j])] else []) := by
  unfold clsRow; rw [List.take_succ_eq_append_getElem h, List.flatMap_append]; simp
theorem flatMap_le {α β : Type} (f : α → List β) (c : Nat) (h : ∀ x, (f x).length ≤ c) : ∀ l : List α, (l.flatMap f).length ≤ c * l.length
  | [] => by simp
  | x :: l => by
    have := h x
    have := flatMap_le f c h l
    rw [List.flatMap_cons, List.length_append, List.length_cons, Nat.mul_add]; omega
theorem actRow_len (F : Str → Actn × Bool) (k : Nat) (T : List Str) : (actRow F k T).length ≤ T.length := by
  have := flatMap_le (fun t => if (F t).1 = .err then [] else [acOf k t (F t).1]) 1 (fun x => by split <;> simp) T
  unfold actRow; omega
theorem clsRow_len (F : Str → Actn × Bool) (k : Nat) (T : List Str) : (clsRow F k T).length ≤ T.length := by
  have := flatMap_le (fun t => if (F t).2 then [(k, toldS t)] else []) 1 (fun x => by split <;> simp) T
  unfold clsRow; omega
theorem actsF_len (F : Nat → Str → Actn × Bool) (T : List Str) (N : Nat) : (actsF F T N).length ≤ T.length * N := by
  have : ∀ N, (actsF F T N).length ≤ T.length * N := by
    intro N
    induction N with
    | zero => simp [actsF]
    | succ N ih => rw [actsF_succ, List.length_append, Nat.mul_succ]; have := actRow_len (F N) N T; omega
  exact this N
theorem clsF_len (F : Nat → Str → Actn × Bool) (T : List Str) (N : Nat) : (clsF F T N).length ≤ T.length * N := by
  have : ∀ N, (clsF F T N).length ≤ T.length * N := by
    intro N
    induction N with
    | zero => simp [clsF]
    | succ N ih => rw [clsF_succ, List.length_append, Nat.mul_succ]; have := clsRow_len (F N) N T; omega
  exact this N
theorem actsF_mem {F : Nat → Str → Actn × Bool} {T : List Str} {N : Nat} {x : Ac} : x ∈ actsF F T N ↔ ∃ k t, k < N ∧ t ∈ T ∧ (F k t).1 ≠ .err ∧ x = acOf k t (F k t).1 := by
  unfold actsF actRow
  simp only [List.mem_flatMap, List.mem_range]
  constructor
  · rintro ⟨k, hk, t, ht, h⟩
    split at h
    · cases h
    · rename_i hn; simp at h; exact ⟨k, t, hk, ht, hn, h⟩
  · rintro ⟨k, t, hk, ht, hn, rfl⟩
    exact ⟨k, hk, t, ht, by rw [if_neg hn]; simp⟩
theorem clsF_mem {F : Nat → Str → Actn × Bool} {T : List Str} {N : Nat} {x : Nat × Str} : x ∈ clsF F T N ↔ ∃ k t, k < N ∧ t ∈ T ∧ (F k t).2 = true ∧ x = (k, toldS t) := by
  unfold clsF clsRow
  simp only [List.mem_flatMap, List.mem_range]
  constructor
  · rintro ⟨k, hk, t, ht, h⟩
    split at h
    · rename_i hn; simp at h; exact ⟨k, t, hk, ht, hn, h⟩
    · cases h
  · rintro ⟨k, t, hk, ht, hn, rfl⟩
    exact ⟨k, hk, t, ht, by rw [if_pos hn]; simp⟩

/-- The terminals that the package's table has. -/
structure TrmOk (g : Gram) (T : List Str) : Prop where
  mem : ∀ t, t ∈ T ↔ t = eofS ∨ t ∈ terminalsF g
  nd : T.Nodup
def looksF (g : Gram) : List Str := terminalsF g ++ [endS]
/-- A told grammar's terminals. -/
structure TermsOk (g : Gram) : Prop where
  sym : ∀ t ∈ terminalsF g, symbolOkB t = true ∧ isHead g t = false
  nd : (terminalsF g).Nodup
theorem TrmOk.trm {g : Gram} {T : List Str} (h : TrmOk g T) (hg : TermsOk g) {t : Str} (ht : t ∈ T) : TrmS g t := by
  rcases (h.mem t).1 ht with e | e
  · exact .inl e
  · exact .inr (hg.sym t e)
theorem TrmOk.perm {g : Gram} {T : List Str} (h : TrmOk g T) (hg : TermsOk g) : (T.map toldS).Perm (looksF g) := by
  have hend : endS ∉ terminalsF g := fun hc => absurd (hg.sym _ hc).1 (by decide)
  refine (List.perm_ext_iff_of_nodup ?_ ?_).2 fun s => ?_
  · unfold List.Nodup
    rw [List.pairwise_map]
    exact h.nd.imp_of_mem fun ha hb hne e => hne ((h.trm hg ha).inj (h.trm hg hb) e)
  · unfold looksF
    rw [List.nodup_append]
    refine ⟨hg.nd, by simp, fun a ha b hb e => ?_⟩
    simp at hb; subst hb; subst e; exact hend ha
  · unfold looksF
    rw [List.mem_map, List.mem_append, List.mem_singleton]
    constructor
    · rintro ⟨t, ht, rfl⟩
      rcases (h.mem t).1 ht with rfl | e
      · exact .inr told_end
      · left; rw [told_ok (hg.sym t e).1]; exact e
    · rintro (e | rfl)
      · exact ⟨s, (h.mem s).2 (.inr e), told_ok (hg.sym s e).1⟩
      · exact ⟨eofS, (h.mem _).2 (.inl rfl), told_end⟩
theorem TrmOk.of_look {g : Gram} {T : List Str} (h : TrmOk g T) (hg : TermsOk g) {s : Str} (hs : s ∈ looksF g) : ∃ t ∈ T, toldS t = s := by
  have := (h.perm hg).mem_iff.2 hs
  simpa using List.mem_map.1 this

/-- The package's actions over states, and what is told of them. -/
structure TabOk (g : Gram) (a : List (List Itm)) (E : List Edg) (F : Nat → Str → Actn × Bool) (N : Nat) : Prop where
  len : a.length = N
  met : ∀ i t, i < N → TrmS g t → ∀ l, a[i]? = some l → ((F i t).1 = .err ↔ saidF g l E i (toldS t) = []) ∧ ((F i t).1 ≠ .err → (F i t).1.kd ∈ saidF g l E i (toldS t) ∧ ∀ y ∈ saidF g l E i (toldS t), leK (F i t).1.kd y) ∧ ((F i t).2 = true ↔ 2 ≤ (saidF g l E i (toldS t)).length)

/-! ### FnTable: the last action told of a state and a terminal -/
def hitA (i : Nat) (s : Str) (a : Ac) : Bool := decide (a.1 = i) && decide (a.2.1 = s)
def lastA (i : Nat) (s : Str) (l : List Ac) : Ac := l.foldl (fun d a => if hitA i s a then a else d) (i, s, 0, 0)
theorem last_gen (p : Ac → Bool) : ∀ (l : List Ac) (d : Ac), (l.foldl (fun d a => if p a then a else d) d = d ∧ ∀ a ∈ l, p a = false) ∨ (l.foldl (fun d a => if p a then a else d) d ∈ l ∧ p (l.foldl (fun d a => if p a then a else d) d) = true)
  | [], d => .inl ⟨rfl, by simp⟩
  | a :: l, d => by
    simp only [List.foldl_cons]
    cases hp : p a with
    | true =>
      simp only [if_true]
      rcases last_gen p l a with ⟨h1, _⟩ | ⟨h1, h2⟩
      · rw [h1]; exact .inr ⟨List.mem_cons_self .., hp⟩
      · exact .inr ⟨List.mem_cons_of_mem _ h1, h2⟩
    | false =>
      simp only [Bool.false_eq_true, if_false]
      rcases last_gen p l d with ⟨h1, h2⟩ | ⟨h1, h2⟩
      · exact .inl ⟨h1, fun b hb => by rcases List.mem_cons.1 hb with rfl | hb; exact hp; exact h2 b hb⟩
      · exact .inr ⟨List.mem_cons_of_mem _ h1, h2⟩
theorem last_eq {g : Gram} {T : List Str} (hT : TrmOk g T) (hg : TermsOk g) {F : Nat → Str → Actn × Bool} {N i : Nat} (hi : i < N) {t : Str} (ht : t ∈ T) :
    lastA i (toldS t) (actsF F T N) = if (F i t).1 = .err then (i, toldS t, 0, 0) else acOf i t (F i t).1 := by
  have key : ∀ x ∈ actsF F T N, hitA i (toldS t) x = true → (F i t).1 ≠ .err ∧ x = acOf i t (F i t).1 := by
    intro x hx hh
    obtain ⟨k, u, hk, hu, hn, rfl⟩ := actsF_mem.1 hx
    unfold hitA acOf at hh
    rw [Bool.and_eq_true, decide_eq_true_iff, decide_eq_true_iff] at hh
    obtain ⟨rfl, h2⟩ := hh
    obtain rfl := (hT.trm hg hu).inj (hT.trm hg ht) h2
    exact ⟨hn, rfl⟩
  rcases last_gen (hitA i (toldS t)) (actsF F T N) (i, toldS t, 0, 0) with ⟨h1, h2⟩ | ⟨h1, h2⟩
  · have e : (F i t).1 = .err := by
      apply Classical.byContradiction
      intro hn
      have := h2 _ (actsF_mem.2 ⟨i, t, hi, ht, hn, rfl⟩)
      simp [hitA, acOf] at this
    rw [if_pos e]
    exact h1
  · obtain ⟨k1, k2⟩ := key _ h1 h2
    rw [if_neg k1]
    exact k2
/-- What FnTable asks of one state and one terminal. -/
theorem table_law {g : Gram} {T : List Str} (hT : TrmOk g T) (hg : TermsOk g) {a : List (List Itm)} {E : List Edg} {F : Nat → Str → Actn × Bool} {N : Nat} (h : TabOk g a E F N) {i : Nat} {l : List Itm} (hl : a[i]? = some l) {s : Str} (hs : s ∈ looksF g) :
    (saidF g l E i s = [] → (lastA i s (actsF F T N)).2.2.1 = 0) ∧ (saidF g l E i s ≠ [] → ∃ y ∈ saidF g l E i s, lastA i s (actsF F T N) = (i, s, y.1, y.2)) := by
  obtain ⟨t, ht, rfl⟩ := hT.of_look hg hs
  have hi : i < N := by rw [← h.len]; exact (List.getElem?_eq_some_iff.1 hl).1
  obtain ⟨m1, m2, _⟩ := h.met i t hi (hT.trm hg ht) l hl
  rw [last_eq hT hg hi ht]
  constructor
  · intro e
    rw [if_pos (m1.2 e)]
  · intro e
    have hn : (F i t).1 ≠ .err := fun h => e (m1.1 h)
    rw [if_neg hn]
    exact ⟨_, (m2 hn).1, rfl⟩

/-! ### FnResolved -/
def stepR (out x : KN) : KN := if x.1 < out.1 ∨ (x.1 = out.1 ∧ x.2 < out.2) then x else out
def resolvedF : List KN → KN
  | [] => (0, 0)
  | x :: l => l.foldl stepR x
theorem leK_refl (x : KN) : leK x x := .inr ⟨rfl, Int.le_refl _⟩
theorem leK_anti {x y : KN} (h : leK x y) (k : leK y x) : x = y := by
  obtain ⟨x1, x2⟩ := x
  obtain ⟨y1, y2⟩ := y
  unfold leK at h k
  simp only at h k
  have e1 : x1 = y1 := by omega
  have e2 : x2 = y2 := by omega
  rw [e1, e2]
theorem stepR_gen : ∀ (l : List KN) (x : KN), (l.foldl stepR x = x ∨ l.foldl stepR x ∈ l) ∧ leK (l.foldl stepR x) x ∧ ∀ y ∈ l, leK (l.foldl stepR x) y
  | [], x => ⟨.inl rfl, leK_refl x, by simp⟩
  | y :: l, x => by
    obtain ⟨h1, h2, h3⟩ := stepR_gen l (stepR x y)
    simp only [List.foldl_cons]
    have tr : ∀ {a b c : KN}, leK a b → leK b c → leK a c := by
      intro a b c h k; unfold leK at *; omega
    have hs : (stepR x y = x ∨ stepR x y = y) ∧ leK (stepR x y) x ∧ leK (stepR x y) y := by
      unfold stepR
      split
      · rename_i h; exact ⟨.inr rfl, by unfold leK; omega, leK_refl y⟩
      · rename_i h; exact ⟨.inl rfl, leK_refl x, by unfold leK; omega⟩
    refine ⟨?_, tr h2 hs.2.1, fun z hz => ?_⟩
    · rcases h1 with h1 | h1
      · rcases hs.1 with e | e
        · exact .inl (h1.trans e)
        · exact .inr (by rw [h1, e]; exact List.mem_cons_self ..)
      · exact .inr (List.mem_cons_of_mem _ h1)
    · rcases List.mem_cons.1 hz with rfl | hz
      · exact tr h2 hs.2.2
      · exact h3 z hz
theorem resolved_least {S : List KN} (h : S ≠ []) : resolvedF S ∈ S ∧ ∀ y ∈ S, leK (resolvedF S) y := by
  match S, h with
  | x :: l, _ =>
    obtain ⟨h1, h2, h3⟩ := stepR_gen l x
    refine ⟨?_, fun y hy => ?_⟩
    · rcases h1 with h1 | h1
      · show l.foldl stepR x ∈ _; rw [h1]; exact List.mem_cons_self ..
      · exact List.mem_cons_of_mem _ h1
    · rcases List.mem_cons.1 hy with rfl | hy
      · exact h2
      · exact h3 y hy
theorem resolved_law {g : Gram} {T : List Str} (hT : TrmOk g T) (hg : TermsOk g) {a : List (List Itm)} {E : List Edg} {F : Nat → Str → Actn × Bool} {N : Nat} (h : TabOk g a E F N) {i : Nat} {l : List Itm} (hl : a[i]? = some l) {s : Str} (hs : s ∈ looksF g) (hne : saidF g l E i s ≠ []) :
    (i, s, (resolvedF (saidF g l E i s)).1, (resolvedF (saidF g l E i s)).2) ∈ actsF F T N := by
  obtain ⟨t, ht, rfl⟩ := hT.of_look hg hs
  have hi : i < N := by rw [← h.len]; exact (List.getElem?_eq_some_iff.1 hl).1
  obtain ⟨m1, m2, _⟩ := h.met i t hi (hT.trm hg ht) l hl
  have hn : (F i t).1 ≠ .err := fun h => hne (m1.1 h)
  obtain ⟨m3, m4⟩ := m2 hn
  obtain ⟨r1, r2⟩ := resolved_least hne
  have e : (F i t).1.kd = resolvedF (saidF g l E i (toldS t)) := leK_anti (m4 _ r1) (r2 _ m3)
  refine actsF_mem.2 ⟨i, t, hi, ht, hn, ?_⟩
  unfold acOf
  rw [e]

/-! ### FnClashes -/
def cntTo (f : Nat → Nat) : Nat → Nat
  | 0 => 0
  | k + 1 => cntTo f k + f k
def clashB (g : Gram) (l : List Itm) (E : List Edg) (i : Nat) (s : Str) : Bool := decide (2 ≤ (saidF g l E i s).length)
theorem clashes_law {g : Gram} {T : List Str} (hT : TrmOk g T) (hg : TermsOk g) {a : List (List Itm)} {E : List Edg} {F : Nat → Str → Actn × Bool} {N : Nat} (h : TabOk g a E F N) :
    (∀ i l s, a[i]? = some l → s ∈ looksF g → 2 ≤ (saidF g l E i s).length → (i, s) ∈ clsF F T N) ∧ cntTo (fun i => (looksF g).countP fun s => clashB g (a.getD i []) E i s) N = (clsF F T N).length := by
  constructor
  · intro i l s hl hs h2
    obtain ⟨t, ht, rfl⟩ := hT.of_look hg hs
    have hi : i < N := by rw [← h.len]; exact (List.getElem?_eq_some_iff.1 hl).1
    obtain ⟨_, _, m3⟩ := h.met i t hi (hT.trm hg ht) l hl
    exact clsF_mem.2 ⟨i, t, hi, ht, m3.2 h2, rfl⟩
  · have : ∀ k, k ≤ N → cntTo (fun i => (looksF g).countP fun s => clashB g (a.getD i []) E i s) k = (clsF F T k).length := by
      intro k
      induction k with
      | zero => intro _; rfl
      | succ k ih =>
        intro hk
        rw [clsF_succ, List.length_append, ← ih (by omega)]
        show _ + _ = _
        congr 1
        have hka : k < a.length := by rw [h.len]; omega
        have hl : a[k]? = some (a.getD k []) := by rw [List.getD, List.getElem?_eq_getElem hka]; rfl
        show List.countP (fun s => clashB g (a.getD k []) E k s) (looksF g) = _
        rw [← (hT.perm hg).countP_eq, List.countP_map]
        have gen : ∀ U : List Str, (∀ t ∈ U, t ∈ T) → List.countP ((fun s => clashB g (a.getD k []) E k s) ∘ toldS) U = (clsRow (F k) k U).length := by
          intro U
          induction U with
          | nil => intro _; rfl
          | cons t U ih2 =>
            intro hU
            have := ih2 fun t ht => hU t (List.mem_cons_of_mem _ ht)
            obtain ⟨_, _, m3⟩ := h.met k t (by omega) (hT.trm hg (hU t (List.mem_cons_self ..))) _ hl
            rw [List.countP_cons, this]
            unfold clsRow
            rw [List.flatMap_cons, List.length_append, Nat.add_comm]
            congr 1
            simp only [Function.comp, clashB, decide_eq_true_eq]
            by_cases h2 : 2 ≤ (saidF g (a.getD k []) E k (toldS t)).length
            · rw [if_pos h2, if_pos (m3.2 h2)]; rfl
            · rw [if_neg h2, if_neg (fun e => h2 (m3.1 e))]; rfl
        exact gen T fun t ht => ht
    exact this N (Nat.le_refl _)
end Go.Proofs.YtdejcdmgcckmoaaGreatDoor
namespace Go.Proofs.YtdejcdmgcckmoaaGreatDoor
open Lr

/-! Clean grammars; the parser's steps. -/
theorem noEnd_of {g : Gram} (hm : Sm g) : NoEnd g := by
  have hb : ∀ p ∈ g, endS ∉ p.2 := fun p hp h => absurd (hm.sym p hp _ h) (by decide)
  have hh : isHead g endS = false := by
    cases h : isHead g endS with
    | false => rfl
    | true =>
      obtain ⟨b, hb⟩ := isHead_iff.1 h
      exact absurd (show symbolOkB endS = true from (hm.head _ hb).1) (by decide)
  refine ⟨hh, hb, fun e => ?_⟩
  have := start_head hm.pos
  rw [e, hh] at this
  cases this
theorem termsF_mem {g : Gram} {t : Str} : t ∈ terminalsF g ↔ ∃ p ∈ g, t ∈ p.2 ∧ greatB t = false :=
  ⟨mem_terminalsF, fun h => termsF_sub (p := default) (.inr h)⟩
theorem termsOk {g : Gram} (hm : Sm g) : TermsOk g := by
  refine ⟨fun t ht => ?_, termsF_nodup g⟩
  obtain ⟨p, hp, h1, h2⟩ := mem_terminalsF ht
  exact ⟨hm.sym p hp t h1, head_of_great hm h2⟩
theorem says_look {g : Gram} (hm : Sm g) {γ : List Str} {a : Str} {x : Does} (h : Says g γ a x) : a ∈ looksF g := by
  unfold looksF
  rcases h.look (noEnd_of hm) (start_head hm.pos) with rfl | ⟨h1, p, hp, h2⟩
  · simp
  · exact List.mem_append.2 (.inl (termsF_mem.2 ⟨p, hp, h2, by rw [hm.great_iff hp h2]; exact h1⟩))
/-- A thing that is said, by kind and number. -/
def Does.kn : Does → Int → KN
  | .shift, n => (1, n)
  | .reduce p, _ => (2, (p : Int))
  | .accept, _ => (3, 0)
theorem said_of {g : Gram} (hm : Sm g) {Γ : List (List Str)} {a : List (List Itm)} {E : List Edg} (hT : Lr.Told g Γ a E) {i : Nat} {γ : List Str} (hγ : Γ[i]? = some γ) {l : List Itm} (hl : ∀ x, x ∈ l ↔ Vld g γ x) {s : Str} {x : Does} (h : Says g γ s x) : ∃ n, Does.kn x n ∈ saidF g l E i s := by
  cases x with
  | shift => exact (said_shift hm hT hγ l s).2 h
  | reduce p => exact ⟨0, (said_red hm hl E i s p).2 ⟨p, rfl, h⟩⟩
  | accept => exact ⟨0, (said_acc hm hl E i s).2 h⟩
theorem single_of {g : Gram} (hm : Sm g) {Γ : List (List Str)} {a : List (List Itm)} {E : List Edg} (hT : Lr.Told g Γ a E) (hc : ∀ i l s, a[i]? = some l → s ∈ looksF g → (saidF g l E i s).length ≤ 1) : Single g := by
  intro γ s x y hx hy
  obtain ⟨δ, h1, h2⟩ := hT.full.all γ hx.live
  obtain ⟨i, hi⟩ := List.getElem?_of_mem h1
  have hil : i < a.length := by rw [hT.len]; exact (List.getElem?_eq_some_iff.1 hi).1
  have hla : a[i]? = some a[i] := List.getElem?_eq_getElem hil
  have hl := hT.items i δ _ hi hla
  have hx' : Says g δ s x := (Says.same h2).2 hx
  have hy' : Says g δ s y := (Says.same h2).2 hy
  have h3 := hc i a[i] s hla (says_look hm hx)
  obtain ⟨n, hn⟩ := said_of hm hT hi hl hx'
  obtain ⟨m, hk⟩ := said_of hm hT hi hl hy'
  have e : Does.kn x n = Does.kn y m := by
    match hS : saidF g a[i] E i s, h3, hn, hk with
    | [], _, hn, _ => cases hn
    | [z], _, hn, hk => simp at hn hk; rw [hn, hk]
  cases x <;> cases y <;> simp [Does.kn] at e ⊢
  omega
theorem noStop_single {g : Gram} (h : Single g) : NoStop g := fun γ h1 p h2 => by have := h γ endS _ _ h1 h2; cases this
/-- From the reference's states. -/
theorem noStop_ref {g : Gram} (hm : Sm g) {Γ : List (List Str)} {a : List (List Itm)} {E : List Edg} (hT : Lr.Told g Γ a E) (hc : ∀ i l, a[i]? = some l → ¬ (2 ≤ (saidF g l E i endS).length ∧ ((3, 0) : KN) ∈ saidF g l E i endS)) : NoStop g := by
  intro γ h1 p h2
  obtain ⟨δ, d1, d2⟩ := hT.full.all γ h1.live
  obtain ⟨i, hi⟩ := List.getElem?_of_mem d1
  have hil : i < a.length := by rw [hT.len]; exact (List.getElem?_eq_some_iff.1 hi).1
  have hla : a[i]? = some a[i] := List.getElem?_eq_getElem hil
  have hl := hT.items i δ _ hi hla
  have k1 := (said_acc hm hl E i endS).2 ((Says.same d2).2 h1)
  have k2 := (said_red hm hl E i endS p).2 ⟨p, rfl, (Says.same d2).2 h2⟩
  refine hc i _ hla ⟨?_, k1⟩
  have := nodup_le_of (V := [((3, 0) : KN), (2, (p : Int))]) (L := saidF g a[i] E i endS) (by simp) (fun z hz => by
    rcases List.mem_cons.1 hz with rfl | hz
    · exact k1
    · simp at hz; rw [hz]; exact k2)
  simpa using this
/-- The package's action, in words of the theory. -/
theorem act_says {g : Gram} (hm : Sm g) {Γ : List (List Str)} {a : List (List Itm)} {E : List Edg} (hT : Lr.Told g Γ a E) {k : Nat} {γ δ : List Str} (hγ : Γ[k]? = some δ) (hs : Same g δ γ) {l : List Itm} (hl : ∀ x, x ∈ l ↔ Vld g δ x) {t : Str} (ht : TrmS g t) (hM : MetA (actsI g t (nF g Γ k t) l) (foldA (actsI g t (nF g Γ k t) l))) :
    match (foldA (actsI g t (nF g Γ k t) l)).1 with
    | .err => ∀ x, ¬ Says g γ (toldS t) x
    | .acc => Says g γ (toldS t) .accept
    | .red m => ∃ p, m = p + 1 ∧ Says g γ (toldS t) (.reduce p)
    | .sh n => Says g γ (toldS t) .shift ∧ EdgeC g Γ k (toldS t) n := by
  have hO := acts_ok hm hT hγ hl hl ht
  obtain ⟨m1, m2, _⟩ := met_said hO hM
  generalize foldA (actsI g t (nF g Γ k t) l) = st at *
  obtain ⟨r, cf⟩ := st
  simp only at m1 m2 ⊢
  cases r with
  | err =>
    intro x hx
    obtain ⟨n, hn⟩ := said_of hm hT hγ hl ((Says.same hs).2 hx)
    rw [m1.1 rfl] at hn
    cases hn
  | acc => exact (Says.same hs).1 ((said_acc hm hl E k _).1 (m2 (by simp)).1)
  | red m =>
    have h1 := (m2 (by simp)).1
    simp only [Actn.kd] at h1
    obtain ⟨p, e, h2⟩ := (said_red hm hl E k _ _).1 h1
    exact ⟨p, by omega, (Says.same hs).1 h2⟩
  | sh n =>
    have h1 := (m2 (by simp)).1
    simp only [Actn.kd] at h1
    obtain ⟨j, e, h2, h3⟩ := said_sh.1 h1
    have : n = j := by omega
    subst this
    exact ⟨(Says.same hs).1 ((said_shift hm hT hγ l _).1 ⟨_, h1⟩), (hT.edges (k, toldS t, n)).1 h2⟩
end Go.Proofs.YtdejcdmgcckmoaaGreatDoor

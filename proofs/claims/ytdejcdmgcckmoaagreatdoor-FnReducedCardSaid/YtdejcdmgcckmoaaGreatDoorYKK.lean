/- The thin package: a state's action at a terminal. -/
import Derived.Test.YtdejcdmgcckmoaaGreatDoorYII
import Derived.Test.YtdejcdmgcckmoaaGreatDoorYHH
import Derived.Test.YtdejcdmgcckmoaaGreatDoorYFF
import Derived.Test.YtdejcdmgcckmoaaGreatDoorYG
namespace Go.Proofs.YtdejcdmgcckmoaaGreatDoor
open Go.RowKit Go.Sort Lr

/-! A state's action at a terminal, by the package's own call. -/
def LsR (R : List Rec) : List (List Itm) := R.map fun r => r.L.map (·.2)
noncomputable def stF (g : Gram) (Γ : List (List Str)) (Ls : List (List Itm)) (k : Nat) (t : Str) : Actn × Bool := foldA (actsI g t (nF g Γ k t) (Ls.getD k []))
theorem idx_le {q : Option Nat} {n : Nat} (h : ∀ p, q = some p → p < n) : idxI q ≤ n := by
  cases q with
  | none => exact Nat.zero_le _
  | some p => have := h p rfl; simp only [idxI]; omega
theorem trm_ok {g : Gram} {t : Str} (h : TrmS g t) : t ≠ invalidS ∧ t.length ≤ 4 := by
  rcases h with rfl | ⟨h, _⟩
  · decide
  · exact ⟨(letters_ne h).2.2.1, symbolOk_le h⟩
/-- Where the package's map of ways leads. -/
theorem tr_get {g : Gram} {Γ : List (List Str)} (hG : GamOk g Γ) {k : Nat} {D : List Str} {f : Str → Option Value} (h : TrOk g Γ k D f) (hk : k < Γ.length) (hD : ∀ X, SymIn g X → X ∈ D) (t : Str) : (f t).getD (.int .i64 0) = .int .i64 (nF g Γ k t : Int) := by
  cases hf : f t with
  | some u =>
    obtain ⟨j, rfl, he⟩ := h.get hk hf
    rw [nF_eq hG he]; rfl
  | none =>
    rw [nF_none]
    · rfl
    · rintro ⟨j, he⟩
      have := h.has hD he
      rw [hf] at this; cases this
theorem nF_le {g : Gram} {Γ : List (List Str)} (hG : GamOk g Γ) (k : Nat) (t : Str) : nF g Γ k t ≤ Γ.length := by
  by_cases h : ∃ j, EdgeC g Γ k t j
  · obtain ⟨j, hj⟩ := h
    rw [nF_eq hG hj]
    exact Nat.le_of_lt hj.lt.2
  · rw [nF_none h]; exact Nat.zero_le _
/-- The facts of one record of the package's list. -/
structure RecF (g : Gram) (w0 W : World) (e1 e2 e3 : Value) (R : List Rec) (Γ : List (List Str)) (k : Nat) (hk : k < R.length) : Prop where
  vld : ∀ i, i ∈ R[k].L.map (·.2) ↔ Vld g (Γ.getD k []) i
  meet : ∀ t, MeetA (actsI g t (nF g Γ k t) (R[k].L.map (·.2)))
  sml : ∀ t, ∀ x ∈ actsI g t (nF g Γ k t) (R[k].L.map (·.2)), x.sml
  len : R[k].L.length ≤ 3185
  stop : (stopA g (R[k].L.map (·.2)) && decide (0 < stopO g (R[k].L.map (·.2)))) = false
theorem rec_f {g : Gram} (hm : Sm g) (hN : NoStop g) {w0 w W : World} {e1 e2 e3 vS : Value} {q : Nat} {R : List Rec} {Γ : List (List Str)} {D : Nat → List Str} (hG : GSt g w0 w W e1 e2 e3 q vS R Γ D) (hR : R.length ≤ 1000) {k : Nat} (hk : k < R.length) : RecF g w0 W e1 e2 e3 R Γ k hk := by
  have hrec := hG.recs k hk
  have hkΓ : k < Γ.length := by rw [← hG.len]; exact hk
  have eΓ : Γ.getD k [] = Γ[k] := by rw [List.getD, List.getElem?_eq_getElem hkΓ]; rfl
  have hv : ∀ i, i ∈ R[k].L.map (·.2) ↔ Vld g (Γ.getD k []) i := fun i => by rw [eΓ]; exact hrec.all i
  have hst := noStop_of hm hN hv
  have hb : ∀ i ∈ R[k].L.map (·.2), ∀ x ∈ Lr.body g i.prod, x ≠ eofS := fun i _ x hx => (letters_ne (symIn_ok hm (body_sym hx))).2.1
  have hd : ∀ i ∈ R[k].L.map (·.2), i.dot ≤ (Lr.body g i.prod).length := fun i hi => ((hv i).1 hi).rest_le
  refine ⟨hv, fun t => meet_of hb hd hst t _, fun t => actF_sml ?_ fun i hi => ?_, ?_, hst⟩
  · have := nF_le hG.gam k t
    rw [← hG.len] at this; omega
  · have := idx_le (q := i.prod) (n := g.length) fun p hp => ((hv i).1 hi).lt hp
    have := hm.len; omega
  · have h1 := items_le hm.len hm.body hrec.nd (fun i hi => (hrec.all i).1 hi)
    rw [List.length_map] at h1
    exact h1
theorem stF_rec {g : Gram} {R : List Rec} {Γ : List (List Str)} {k : Nat} (hk : k < R.length) (t : Str) : stF g Γ (LsR R) k t = foldA (actsI g t (nF g Γ k t) (R[k].L.map (·.2))) := by
  unfold stF LsR
  rw [List.getD, List.getElem?_map, List.getElem?_eq_getElem hk]; rfl
theorem act_call {g : Gram} (hm : Sm g) (hN : NoStop g) {w0 w W : World} {e1 e2 e3 vS : Value} {q : Nat} {R : List Rec} {Γ : List (List Str)} {D : Nat → List Str} (hG : GSt g w0 w W e1 e2 e3 q vS R Γ D) (hR : R.length ≤ 1000)
    (hD : ∀ k, k < R.length → (∀ X, SymIn g X → X ∈ D k) ∧ (D k).length ≤ 1000) {k : Nat} (hk : k < R.length) {t : Str} (ht : TrmS g t) {W' : World} (hW : New W W') (htab : TabW W') :
    Calls Tryz.prog 79 #[.pointer (some ⟨R[k].p, 0, none⟩), sv t] W' fun e w' => ∃ (cv : Value) (l : List Actn), e = .returned (.tuple #[(stF g Γ (LsR R) k t).1.val, cv]) ∧ w'.ownsRow W'.heap.size 119 1 cv l.length (l.map Actn.val) ∧ (l ≠ [] ↔ (stF g Γ (LsR R) k t).2 = true) ∧ (∀ x ∈ l, x.sml) ∧ l.length ≤ 10000 ∧ New W' w' := by
  have hF := rec_f hm hN hG hR hk
  obtain ⟨n, f, hmf, hnf, htr⟩ := hG.tr k hk
  have hkΓ : k < Γ.length := by rw [← hG.len]; exact hk
  have hst := ((hG.recs k hk).st).new hW
  rw [stF_rec hk]
  refine (Action_any hst (hmf.new hW) (tr_get hG.gam htr hkΓ (hD k hk).1 t) (trm_ok ht).1 (by have := (trm_ok ht).2; omega) (hF.meet t) (hF.sml t) (by have := hF.len; omega) htab).mono ?_
  rintro e w' ⟨cv, l, h1, h2, h3, h4, h5, h6⟩
  exact ⟨cv, l, h1, h2, h3, h4, by have := hF.len; omega, h6⟩
theorem stF_sml {g : Gram} {w0 W : World} {e1 e2 e3 : Value} {R : List Rec} {Γ : List (List Str)} {k : Nat} {hk : k < R.length} (hF : RecF g w0 W e1 e2 e3 R Γ k hk) (t : Str) : (stF g Γ (LsR R) k t).1.sml := by
  rw [stF_rec hk]
  have hM := foldA_met (hF.meet t) (k := (actsI g t (nF g Γ k t) (R[k].L.map (·.2))).length) (Nat.le_refl _)
  rw [List.take_length] at hM
  by_cases h : (foldA (actsI g t (nF g Γ k t) (R[k].L.map (·.2)))).1 = .err
  · rw [h]; trivial
  · exact hF.sml t _ (hM.mem h)
end Go.Proofs.YtdejcdmgcckmoaaGreatDoor
namespace Go.Proofs.YtdejcdmgcckmoaaGreatDoor
open Go.RowKit Go.Sort Lr

theorem T49 : SliceTy Tryz.prog 49 61 4 40 (.agg #[.int .i64 0, .string ByteArray.empty, .int .i64 0, .int .i64 0]) := ⟨Tryz.underlying49, by kernel_rfl, rfl, by omega⟩
theorem T50 : SliceTy Tryz.prog 50 57 4 72 (.agg #[.int .i64 0, .string ByteArray.empty, .slice none 0 0, .slice none 0 0]) := ⟨Tryz.underlying50, by kernel_rfl, rfl, by omega⟩
theorem owns_base {w : World} {B B' : Nat} {e : TypeId} {size n : Nat} {v : Value} {xs : List Value} (h : w.ownsRow B e size v n xs) (hB : B' ≤ B) : w.ownsRow B' e size v n xs := by
  refine ⟨h.1, ?_⟩
  rcases h.2 with h | ⟨g, cap, cur, e1, hb, r⟩
  · exact .inl h
  · exact .inr ⟨g, cap, cur, e1, Nat.le_trans hB hb, r⟩
theorem kd_pos {a : Actn} (h : a ≠ .err) : 0 < a.kd.1 := by
  cases a <;> simp [Actn.kd] at h ⊢
theorem sml_red {a : Actn} (h : a.sml) : ∀ n, a = .red n → n ≤ 1000000 := fun n e => by subst e; exact h
theorem trm_len {g : Gram} (hm : Sm g) {T : List Str} (h : TrmOk g T) : T.length ≤ 49 := by
  have h1 := nodup_le_of (V := T) (L := eofS :: terminalsF g) h.nd fun t ht => by
    rcases (h.mem t).1 ht with e | e
    · rw [e]; exact List.mem_cons_self ..
    · exact List.mem_cons_of_mem _ e
  have h2 := terminals_len hm.body
  have h3 := hm.len
  simp at h1; omega
/-- The table's two rows in memory. -/
structure TbO (W wr : World) (vA vC : Value) (A : List Ac) (C : List Cl) : Prop where
  oa : OwnK ac4 4 61 wr W.heap.size vA A
  oc : OwnK cl4 4 57 wr W.heap.size vC C
  n : New W wr
/-- What they tell. -/
structure TbR (F : Nat → Str → Actn × Bool) (T : List Str) (k j : Nat) (A : List Ac) (C : List Cl) : Prop where
  ea : A = actsF F T k ++ actRow (F k) k (T.take j)
  ec : C.map (fun x => (x.1, x.2.1)) = clsF F T k ++ clsRow (F k) k (T.take j)
section
variable {W wr w' : World} {vA vC : Value} {A : List Ac} {C : List Cl}
theorem TbO.mono (h : TbO W wr vA vC A C) (hn : New wr w') : TbO W w' vA vC A C := ⟨ownsRow_new h.oa hn, ownsRow_new h.oc hn, h.n.trans hn⟩
theorem TbO.pushA (h : TbO W wr vA vC A C) {v' : Value} {x : Ac} (hown : w'.ownsRow W.heap.size 61 4 v' (A.length + 1) (A.flatMap ac4 ++ ac4 x)) (hg : wr.grownBy w' vA.ownBlock) : TbO W w' v' vC (A ++ [x]) C :=
  ⟨OwnK.push hown, World.ownsRow.kept h.oc hg (ownBlock_ne_row h.oc h.oa (by decide)), Below.push h.n h.oa hg h.n.size⟩
theorem TbO.pushC (h : TbO W wr vA vC A C) {v' : Value} {x : Cl} (hown : w'.ownsRow W.heap.size 57 4 v' (C.length + 1) (C.flatMap cl4 ++ cl4 x)) (hg : wr.grownBy w' vC.ownBlock) : TbO W w' vA v' A (C ++ [x]) :=
  ⟨World.ownsRow.kept h.oa hg (ownBlock_ne_row h.oa h.oc (by decide)), OwnK.push hown, Below.push h.n h.oc hg h.n.size⟩
theorem TbO.zero : TbO W W (.slice none 0 0) (.slice none 0 0) [] [] := ⟨OwnK.nil, OwnK.nil, New.refl W⟩
end
section
variable {F : Nat → Str → Actn × Bool} {T : List Str} {k j : Nat} {A : List Ac} {C : List Cl}
theorem TbR.len (h : TbR F T k j A C) (hk : k ≤ 120) (hT : T.length ≤ 49) : A.length ≤ 6000 ∧ C.length ≤ 6000 := by
  have h1 := actsF_len F T k
  have h2 := actRow_len (F k) k (T.take j)
  have h3 := clsF_len F T k
  have h4 := clsRow_len (F k) k (T.take j)
  have h5 : T.length * k ≤ 49 * 120 := Nat.mul_le_mul hT hk
  have h6 := congrArg List.length h.ec
  rw [List.length_map, List.length_append] at h6
  rw [List.length_take] at h2 h4
  rw [h.ea, List.length_append]
  omega
theorem TbR.zero : TbR F T 0 0 [] [] := ⟨rfl, rfl⟩
theorem TbR.next (h : TbR F T k j A C) (hj : T.length ≤ j) : TbR F T (k + 1) 0 A C := by
  have e : T.take j = T := List.take_of_length_le hj
  refine ⟨?_, ?_⟩
  · rw [h.ea, e, actsF_succ]; simp [actRow]
  · rw [h.ec, e, clsF_succ]; simp [clsRow]
theorem TbR.fin (h : TbR F T k 0 A C) : A = actsF F T k ∧ C.map (fun x => (x.1, x.2.1)) = clsF F T k := by
  refine ⟨?_, ?_⟩
  · rw [h.ea]; simp [actRow]
  · rw [h.ec]; simp [clsRow]
/-- One terminal more. -/
theorem TbR.s00 (h : TbR F T k j A C) (hj : j < T.length) (ha : (F k T[j]).1 = .err) (hc : (F k T[j]).2 = false) : TbR F T k (j + 1) A C := by
  refine ⟨?_, ?_⟩
  · rw [actRow_take hj, if_pos ha, ← List.append_assoc, ← h.ea]; simp
  · rw [clsRow_take hj, hc, ← List.append_assoc, ← h.ec]; simp
theorem TbR.s10 (h : TbR F T k j A C) (hj : j < T.length) (ha : (F k T[j]).1 ≠ .err) (hc : (F k T[j]).2 = false) : TbR F T k (j + 1) (A ++ [acOf k T[j] (F k T[j]).1]) C := by
  refine ⟨?_, ?_⟩
  · rw [actRow_take hj, if_neg ha, ← List.append_assoc, ← h.ea]
  · rw [clsRow_take hj, hc, ← List.append_assoc, ← h.ec]; simp
theorem TbR.s01 (h : TbR F T k j A C) (hj : j < T.length) (ha : (F k T[j]).1 = .err) (hc : (F k T[j]).2 = true) {x : Cl} (h1 : x.1 = k) (h2 : x.2.1 = toldS T[j]) : TbR F T k (j + 1) A (C ++ [x]) := by
  refine ⟨?_, ?_⟩
  · rw [actRow_take hj, if_pos ha, ← List.append_assoc, ← h.ea]; simp
  · rw [clsRow_take hj, hc, ← List.append_assoc, ← h.ec, List.map_append, List.map_singleton, h1, h2]; simp
theorem TbR.s11 (h : TbR F T k j A C) (hj : j < T.length) (ha : (F k T[j]).1 ≠ .err) (hc : (F k T[j]).2 = true) {x : Cl} (h1 : x.1 = k) (h2 : x.2.1 = toldS T[j]) : TbR F T k (j + 1) (A ++ [acOf k T[j] (F k T[j]).1]) (C ++ [x]) := by
  refine ⟨?_, ?_⟩
  · rw [actRow_take hj, if_neg ha, ← List.append_assoc, ← h.ea]
  · rw [clsRow_take hj, hc, ← List.append_assoc, ← h.ec, List.map_append, List.map_singleton, h1, h2]; simp
end
end Go.Proofs.YtdejcdmgcckmoaaGreatDoor

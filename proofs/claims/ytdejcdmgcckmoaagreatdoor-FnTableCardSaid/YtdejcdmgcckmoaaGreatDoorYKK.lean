/- The thin package: its table. -/
import Derived.Test.YtdejcdmgcckmoaaGreatDoorYJJ
import Derived.Test.YtdejcdmgcckmoaaGreatDoorYHH
namespace Go.Proofs.YtdejcdmgcckmoaaGreatDoor
open Go.RowKit Go.Sort Lr

/-! A state's action at a terminal, by the package's own call. -/
def LsR (R : List Rec) : List (List Itm) := R.map fun r => r.L.map (·.2)
noncomputable def stF (g : Gram) (Γ : List (List Str)) (Ls : List (List Itm)) (k : Nat) (t : Str) : Actn × Bool := foldA (actsI g t (nF g Γ k t) (Ls.getD k []))
theorem idx_le {q : Option Nat} {n : Nat} (h : ∀ p, q = some p → p < n) : idxI q ≤ n := by
  cases q with
  | none => exact Nat.zero_le _
  | some p => have := h p rfl; simp only [idxI]; omega
theorem trm_ok {g : Gram} {t : Str} (h : TrmS g t) : t ≠ invalidS ∧ t.length ≤ 4 := by
  rcases h with rfl | ⟨h, _⟩
  · decide
  · exact ⟨(letters_ne h).2.2.1, symbolOk_le h⟩
/-- Where the package's map of ways leads. -/
theorem tr_get {g : Gram} {Γ : List (List Str)} (hG : GamOk g Γ) {k : Nat} {D : List Str} {f : Str → Option Value} (h : TrOk g Γ k D f) (hk : k < Γ.length) (hD : ∀ X, SymIn g X → X ∈ D) (t : Str) : (f t).getD (.int .i64 0) = .int .i64 (nF g Γ k t : Int) := by
  cases hf : f t with
  | some u =>
    obtain ⟨j, rfl, he⟩ := h.get hk hf
    rw [nF_eq hG he]; rfl
  | none =>
    rw [nF_none]
    · rfl
    · rintro ⟨j, he⟩
      have := h.has hD he
      rw [hf] at this; cases this
theorem nF_le {g : Gram} {Γ : List (List Str)} (hG : GamOk g Γ) (k : Nat) (t : Str) : nF g Γ k t ≤ Γ.length := by
  by_cases h : ∃ j, EdgeC g Γ k t j
  · obtain ⟨j, hj⟩ := h
    rw [nF_eq hG hj]
    exact Nat.le_of_lt hj.lt.2
  · rw [nF_none h]; exact Nat.zero_le _
/-- The facts of one record of the package's list. -/
structure RecF (g : Gram) (w0 W : World) (e1 e2 e3 : Value) (R : List Rec) (Γ : List (List Str)) (k : Nat) (hk : k < R.length) : Prop where
  vld : ∀ i, i ∈ R[k].L.map (·.2) ↔ Vld g (Γ.getD k []) i
  meet : ∀ t, MeetA (actsI g t (nF g Γ k t) (R[k].L.map (·.2)))
  sml : ∀ t, ∀ x ∈ actsI g t (nF g Γ k t) (R[k].L.map (·.2)), x.sml
  len : R[k].L.length ≤ 3185
  stop : (stopA g (R[k].L.map (·.2)) && decide (0 < stopO g (R[k].L.map (·.2)))) = false
theorem rec_f {g : Gram} (hm : Sm g) (hN : NoStop g) {w0 w W : World} {e1 e2 e3 vS : Value} {q : Nat} {R : List Rec} {Γ : List (List Str)} {D : Nat → List Str} (hG : GSt g w0 w W e1 e2 e3 q vS R Γ D) (hR : R.length ≤ 1000) {k : Nat} (hk : k < R.length) : RecF g w0 W e1 e2 e3 R Γ k hk := by
  have hrec := hG.recs k hk
  have hkΓ : k < Γ.length := by rw [← hG.len]; exact hk
  have eΓ : Γ.getD k [] = Γ[k] := by rw [List.getD, List.getElem?_eq_getElem hkΓ]; rfl
  have hv : ∀ i, i ∈ R[k].L.map (·.2) ↔ Vld g (Γ.getD k []) i := fun i => by rw [eΓ]; exact hrec.all i
  have hst := noStop_of hm hN hv
  have hb : ∀ i ∈ R[k].L.map (·.2), ∀ x ∈ Lr.body g i.prod, x ≠ eofS := fun i _ x hx => (letters_ne (symIn_ok hm (body_sym hx))).2.1
  have hd : ∀ i ∈ R[k].L.map (·.2), i.dot ≤ (Lr.body g i.prod).length := fun i hi => ((hv i).1 hi).rest_le
  refine ⟨hv, fun t => meet_of hb hd hst t _, fun t => actF_sml ?_ fun i hi => ?_, ?_, hst⟩
  · have := nF_le hG.gam k t
    rw [← hG.len] at this; omega
  · have := idx_le (q := i.prod) (n := g.length) fun p hp => ((hv i).1 hi).lt hp
    have := hm.len; omega
  · have h1 := items_le hm.len hm.body hrec.nd (fun i hi => (hrec.all i).1 hi)
    rw [List.length_map] at h1
    exact h1
theorem stF_rec {g : Gram} {R : List Rec} {Γ : List (List Str)} {k : Nat} (hk : k < R.length) (t : Str) : stF g Γ (LsR R) k t = foldA (actsI g t (nF g Γ k t) (R[k].L.map (·.2))) := by
  unfold stF LsR
  rw [List.getD, List.getElem?_map, List.getElem?_eq_getElem hk]; rfl
theorem act_call {g : Gram} (hm : Sm g) (hN : NoStop g) {w0 w W : World} {e1 e2 e3 vS : Value} {q : Nat} {R : List Rec} {Γ : List (List Str)} {D : Nat → List Str} (hG : GSt g w0 w W e1 e2 e3 q vS R Γ D) (hR : R.length ≤ 1000)
    (hD : ∀ k, k < R.length → (∀ X, SymIn g X → X ∈ D k) ∧ (D k).length ≤ 1000) {k : Nat} (hk : k < R.length) {t : Str} (ht : TrmS g t) {W' : World} (hW : New W W') (htab : TabW W') :
    Calls Tryz.prog 79 #[.pointer (some ⟨R[k].p, 0, none⟩), sv t] W' fun e w' => ∃ (cv : Value) (l : List Actn), e = .returned (.tuple #[(stF g Γ (LsR R) k t).1.val, cv]) ∧ w'.ownsRow W'.heap.size 119 1 cv l.length (l.map Actn.val) ∧ (l ≠ [] ↔ (stF g Γ (LsR R) k t).2 = true) ∧ (∀ x ∈ l, x.sml) ∧ l.length ≤ 10000 ∧ New W' w' := by
  have hF := rec_f hm hN hG hR hk
  obtain ⟨n, f, hmf, hnf, htr⟩ := hG.tr k hk
  have hkΓ : k < Γ.length := by rw [← hG.len]; exact hk
  have hst := ((hG.recs k hk).st).new hW
  rw [stF_rec hk]
  refine (Action_any hst (hmf.new hW) (tr_get hG.gam htr hkΓ (hD k hk).1 t) (trm_ok ht).1 (by have := (trm_ok ht).2; omega) (hF.meet t) (hF.sml t) (by have := hF.len; omega) htab).mono ?_
  rintro e w' ⟨cv, l, h1, h2, h3, h4, h5, h6⟩
  exact ⟨cv, l, h1, h2, h3, h4, by have := hF.len; omega, h6⟩
theorem stF_sml {g : Gram} {w0 W : World} {e1 e2 e3 : Value} {R : List Rec} {Γ : List (List Str)} {k : Nat} {hk : k < R.length} (hF : RecF g w0 W e1 e2 e3 R Γ k hk) (t : Str) : (stF g Γ (LsR R) k t).1.sml := by
  rw [stF_rec hk]
  have hM := foldA_met (hF.meet t) (k := (actsI g t (nF g Γ k t) (R[k].L.map (·.2))).length) (Nat.le_refl _)
  rw [List.take_length] at hM
  by_cases h : (foldA (actsI g t (nF g Γ k t) (R[k].L.map (·.2)))).1 = .err
  · rw [h]; trivial
  · exact hF.sml t _ (hM.mem h)
end Go.Proofs.YtdejcdmgcckmoaaGreatDoor
namespace Go.Proofs.YtdejcdmgcckmoaaGreatDoor
open Go.RowKit Go.Sort Lr

theorem T49 : SliceTy Tryz.prog 49 61 4 40 (.agg #[.int .i64 0, .string ByteArray.empty, .int .i64 0, .int .i64 0]) := ⟨Tryz.underlying49, by kernel_rfl, rfl, by omega⟩
theorem T50 : SliceTy Tryz.prog 50 57 4 72 (.agg #[.int .i64 0, .string ByteArray.empty, .slice none 0 0, .slice none 0 0]) := ⟨Tryz.underlying50, by kernel_rfl, rfl, by omega⟩
theorem owns_base {w : World} {B B' : Nat} {e : TypeId} {size n : Nat} {v : Value} {xs : List Value} (h : w.ownsRow B e size v n xs) (hB : B' ≤ B) : w.ownsRow B' e size v n xs := by
  refine ⟨h.1, ?_⟩
  rcases h.2 with h | ⟨g, cap, cur, e1, hb, r⟩
  · exact .inl h
  · exact .inr ⟨g, cap, cur, e1, Nat.le_trans hB hb, r⟩
theorem kd_pos {a : Actn} (h : a ≠ .err) : 0 < a.kd.1 := by
  cases a <;> simp [Actn.kd] at h ⊢
theorem sml_red {a : Actn} (h : a.sml) : ∀ n, a = .red n → n ≤ 1000000 := fun n e => by subst e; exact h
theorem trm_len {g : Gram} (hm : Sm g) {T : List Str} (h : TrmOk g T) : T.length ≤ 49 := by
  have h1 := nodup_le_of (V := T) (L := eofS :: terminalsF g) h.nd fun t ht => by
    rcases (h.mem t).1 ht with e | e
    · rw [e]; exact List.mem_cons_self ..
    · exact List.mem_cons_of_mem _ e
  have h2 := terminals_len hm.body
  have h3 := hm.len
  simp at h1; omega
/-- The table's two rows in memory. -/
structure TbO (W wr : World) (vA vC : Value) (A : List Ac) (C : List Cl) : Prop where
  oa : OwnK ac4 4 61 wr W.heap.size vA A
  oc : OwnK cl4 4 57 wr W.heap.size vC C
  n : New W wr
/-- What they tell. -/
structure TbR (F : Nat → Str → Actn × Bool) (T : List Str) (k j : Nat) (A : List Ac) (C : List Cl) : Prop where
  ea : A = actsF F T k ++ actRow (F k) k (T.take j)
  ec : C.map (fun x => (x.1, x.2.1)) = clsF F T k ++ clsRow (F k) k (T.take j)
section
variable {W wr w' : World} {vA vC : Value} {A : List Ac} {C : List Cl}
theorem TbO.mono (h : TbO W wr vA vC A C) (hn : New wr w') : TbO W w' vA vC A C := ⟨ownsRow_new h.oa hn, ownsRow_new h.oc hn, h.n.trans hn⟩
theorem TbO.pushA (h : TbO W wr vA vC A C) {v' : Value} {x : Ac} (hown : w'.ownsRow W.heap.size 61 4 v' (A.length + 1) (A.flatMap ac4 ++ ac4 x)) (hg : wr.grownBy w' vA.ownBlock) : TbO W w' v' vC (A ++ [x]) C :=
  ⟨OwnK.push hown, World.ownsRow.kept h.oc hg (ownBlock_ne_row h.oc h.oa (by decide)), Below.push h.n h.oa hg h.n.size⟩
theorem TbO.pushC (h : TbO W wr vA vC A C) {v' : Value} {x : Cl} (hown : w'.ownsRow W.heap.size 57 4 v' (C.length + 1) (C.flatMap cl4 ++ cl4 x)) (hg : wr.grownBy w' vC.ownBlock) : TbO W w' vA v' A (C ++ [x]) :=
  ⟨World.ownsRow.kept h.oa hg (ownBlock_ne_row h.oa h.oc (by decide)), OwnK.push hown, Below.push h.n h.oc hg h.n.size⟩
theorem TbO.zero : TbO W W (.slice none 0 0) (.slice none 0 0) [] [] := ⟨OwnK.nil, OwnK.nil, New.refl W⟩
end
section
variable {F : Nat → Str → Actn × Bool} {T : List Str} {k j : Nat} {A : List Ac} {C : List Cl}
theorem TbR.len (h : TbR F T k j A C) (hk : k ≤ 120) (hT : T.length ≤ 49) : A.length ≤ 6000 ∧ C.length ≤ 6000 := by
  have h1 := actsF_len F T k
  have h2 := actRow_len (F k) k (T.take j)
  have h3 := clsF_len F T k
  have h4 := clsRow_len (F k) k (T.take j)
  have h5 : T.length * k ≤ 49 * 120 := Nat.mul_le_mul hT hk
  have h6 := congrArg List.length h.ec
  rw [List.length_map, List.length_append] at h6
  rw [List.length_take] at h2 h4
  rw [h.ea, List.length_append]
  omega
theorem TbR.zero : TbR F T 0 0 [] [] := ⟨rfl, rfl⟩
theorem TbR.next (h : TbR F T k j A C) (hj : T.length ≤ j) : TbR F T (k + 1) 0 A C := by
  have e : T.take j = T := List.take_of_length_le hj
  refine ⟨?_, ?_⟩
  · rw [h.ea, e, actsF_succ]; simp [actRow]
  · rw [h.ec, e, clsF_succ]; simp [clsRow]
theorem TbR.fin (h : TbR F T k 0 A C) : A = actsF F T k ∧ C.map (fun x => (x.1, x.2.1)) = clsF F T k := by
  refine ⟨?_, ?_⟩
  · rw [h.ea]; simp [actRow]
  · rw [h.ec]; simp [clsRow]
/-- One terminal more. -/
theorem TbR.s00 (h : TbR F T k j A C) (hj : j < T.length) (ha : (F k T[j]).1 = .err) (hc : (F k T[j]).2 = false) : TbR F T k (j + 1) A C := by
  refine ⟨?_, ?_⟩
  · rw [actRow_take hj, if_pos ha, ← List.append_assoc, ← h.ea]; simp
  · rw [clsRow_take hj, hc, ← List.append_assoc, ← h.ec]; simp
theorem TbR.s10 (h : TbR F T k j A C) (hj : j < T.length) (ha : (F k T[j]).1 ≠ .err) (hc : (F k T[j]).2 = false) : TbR F T k (j + 1) (A ++ [acOf k T[j] (F k T[j]).1]) C := by
  refine ⟨?_, ?_⟩
  · rw [actRow_take hj, if_neg ha, ← List.append_assoc, ← h.ea]
  · rw [clsRow_take hj, hc, ← List.append_assoc, ← h.ec]; simp
theorem TbR.s01 (h : TbR F T k j A C) (hj : j < T.length) (ha : (F k T[j]).1 = .err) (hc : (F k T[j]).2 = true) {x : Cl} (h1 : x.1 = k) (h2 : x.2.1 = toldS T[j]) : TbR F T k (j + 1) A (C ++ [x]) := by
  refine ⟨?_, ?_⟩
  · rw [actRow_take hj, if_pos ha, ← List.append_assoc, ← h.ea]; simp
  · rw [clsRow_take hj, hc, ← List.append_assoc, ← h.ec, List.map_append, List.map_singleton, h1, h2]; simp
theorem TbR.s11 (h : TbR F T k j A C) (hj : j < T.length) (ha : (F k T[j]).1 ≠ .err) (hc : (F k T[j]).2 = true) {x : Cl} (h1 : x.1 = k) (h2 : x.2.1 = toldS T[j]) : TbR F T k (j + 1) (A ++ [acOf k T[j] (F k T[j]).1]) (C ++ [x]) := by
  refine ⟨?_, ?_⟩
  · rw [actRow_take hj, if_neg ha, ← List.append_assoc, ← h.ea]
  · rw [clsRow_take hj, hc, ← List.append_assoc, ← h.ec, List.map_append, List.map_singleton, h1, h2]; simp
end
end Go.Proofs.YtdejcdmgcckmoaaGreatDoor
namespace Go.Proofs.YtdejcdmgcckmoaaGreatDoor
open Go.RowKit Go.Sort Lr

theorem results_four {fn : Func} {t u v x : Tmp} (h : fn.results = #[.tmp t, .tmp u, .tmp v, .tmp x]) (tmps : Array Value) (P : Program) (w : World) :
    (results fn tmps).run P w = .ok (.tuple #[tmps.getD t undef, tmps.getD u undef, tmps.getD v undef, tmps.getD x undef]) w := by
  simp [results, h]
/-- What the package's table is: its states' items, its actions, gotos, conflicts. -/
structure TabOut (g : Gram) (Γ : List (List Str)) (Ls : List (List Itm)) (w : World) (vA vE vC : Value) (E : List Edg) (C : List Cl) : Prop where
  len : Ls.length = Γ.length
  its : ∀ (k : Nat) (γ : List Str) (l : List Itm), Γ[k]? = some γ → Ls[k]? = some l → ∀ i, i ∈ l ↔ Vld g γ i
  trm : TrmOk g (trmF g)
  act : RowK ac4 4 w vA (actsF (stF g Γ Ls) (trmF g) Γ.length)
  edg : EdgsAt w vE E
  edgs : EdIn g Γ true Γ.length E
  cls : RowK cl4 4 w vC C
  clss : C.map (fun x => (x.1, x.2.1)) = clsF (stF g Γ Ls) (trmF g) Γ.length
set_option maxRecDepth 20000 in
set_option maxHeartbeats 4000000 in
theorem Table_any {g : Gram} (hg : GOk g) (hfew : Few g 120) (hN : NoStop g) (v : Value) (w : World) (h : GramAt w v g) (htab : TabW w) :
    Calls Tryz.prog 33 #[v] w fun e w' => ∃ vA vE vC c Ls E C, e = .returned (.tuple #[vA, vE, vC, .bool true]) ∧ DoneC g (symsG g) c ∧ TabOut g (collC g (symsG g) c) Ls w' vA vE vC E C ∧ New w w' := by
  have hm := hg.toSm
  have hq := Lib.hid (right_any v g w h hm)
  have HH := Lib.hid (And.intro h htab)
  obtain ⟨a, cap, rfl⟩ := h.slice
  clear h htab
  go_enter Tryz.func33, Tryz.ntmps33
  go_wp2_with fail
  refine hq.out.mono ?_
  rintro e w1 ⟨rfl, hn1⟩
  have hq2 := Lib.hid (sets_any hg hfew _ w1 (HH.out.1.new hn1))
  clear hq
  go_wp2_with fail
  refine hq2.out.mono ?_
  rintro e w2 ⟨wb, e1, e2, e3, q, vS, R, c, rfl, hnb, hG, hd⟩
  clear hq2
  have hRl : R.length ≤ 120 := by rw [hG.len]; exact hfew.le hG.gam
  have hDk : ∀ k, k < R.length → (∀ X, SymIn g X → X ∈ Dcs g c 0 k) ∧ (Dcs g c 0 k).length ≤ 1000 := fun k hk => by
    have hkc : k < c := by rw [hG.len] at hk; unfold DoneC at hd; omega
    rw [Dcs_zero]
    simp only [if_pos hkc]
    exact ⟨fun X hX => symsG_all hX, types_len hm⟩
  have hnw2 : New w w2 := (hn1.trans hnb).trans hG.new
  have HG := Lib.hid (And.intro hG (And.intro hd (And.intro hDk (And.intro hnw2 (And.intro (HH.out.1.new hnw2) (HH.out.2.new hnw2))))))
  have HLEN := Lib.hid hG.len
  obtain ⟨aS, cS, rfl⟩ := owns_slice hG.row
  clear hG hd hDk hnw2 hnb hn1
  obtain ⟨Γ, hΓ⟩ : ∃ Γ, Γ = collC g (symsG g) c := ⟨_, rfl⟩
  have HΓ := Lib.hid hΓ
  rw [← hΓ] at HG HLEN
  clear hΓ
  obtain ⟨F, hF⟩ : ∃ F, F = stF g Γ (LsR R) := ⟨_, rfl⟩
  have HF := Lib.hid hF
  clear hF
  go_wp2_with fail
  go_loopg [7, 8, 24] R.length (fun gk u7 u8 u24 wr => ∃ (k : Nat) (A : List Ac) (C : List Cl), k ≤ R.length ∧ gk = R.length - k ∧ u24 = .int .i64 k ∧ Hid (TbO w2 wr u7 u8 A C) ∧ Hid (TbR F (trmF g) k 0 A C) ∧ Hid (0 < k → TrmOk g (trmF g)))
  case atStart => exact ⟨0, [], [], Nat.zero_le _, rfl, rfl, Lib.hid TbO.zero, Lib.hid TbR.zero, Lib.hid (fun h => by omega)⟩
  case round =>
    obtain ⟨k, A, C, hk, rfl, rfl, hO, hR, hTk⟩ := hrel
    by_cases hlt : k < R.length
    · obtain ⟨gb, cb, e, hgb, hgB, hcell⟩ := row_ptr HG.out.1.row (by omega)
      cases e
      have hrow := hO.out.n.cell (hcell k (.pointer (some ⟨R[k].p, 0, none⟩)) (by simp [hlt]))
      have hf := rec_f hm hN HG.out.1 (by omega) hlt
      have hst := ((HG.out.1.recs k hlt).st).new hO.out.n
      have hstop := stops_any hst (by have := hf.len; omega)
      rw [hf.stop] at hstop
      have hqs := Lib.hid hstop
      have hsm0 := Lib.hid (stF_sml hf)
      have hact := Lib.hid (fun (t : Str) (ht : TrmS g t) (W' : World) (hW : New w2 W') => act_call hm hN HG.out.1 (by omega) HG.out.2.2.1 hlt ht hW (HG.out.2.2.2.2.2.new hW))
      have HW := Lib.hid hO.out.n
      clear hcell hst hstop hf hgb hgB
      generalize R[k].p = pk at *
      obtain ⟨aA, cA, eA⟩ := owns_slice hO.out.oa
      obtain ⟨aC, cC, eC⟩ := owns_slice hO.out.oc
      subst eA; subst eC
      have HO := Lib.hid hO
      clear hO
      go_wp2_with (first | (go_at_call 78; refine hqs.out.mono ?_; rintro e w3 ⟨rfl, hn3⟩; have hqt := Lib.hid (terms_any _ g w3 (HG.out.2.2.2.2.1.new (HW.out.trans hn3)) hm); have HO3 := Lib.hid (HO.out.out.mono hn3); clear hn3) | (go_at_call 76; refine hqt.out.mono ?_; rintro e w4 ⟨vT, rfl, hST, hT, hn4⟩; obtain ⟨aT, cT, eT⟩ := owns_slice hST; subst eT))
      have HT := Lib.hid hT
      have HST := Lib.hid hST
      have hTl := trm_len hm hT
      have HO4 := Lib.hid (HO3.out.mono hn4)
      clear hST hT hn4 hqt hqs HO hrow
      go_loopg [7, 8, 34] (trmF g).length (fun gj u7 u8 u34 wr => ∃ (j : Nat) (A : List Ac) (C : List Cl), j ≤ (trmF g).length ∧ gj = (trmF g).length - j ∧ u34 = .int .i64 j ∧ Hid (TbO w2 wr u7 u8 A C) ∧ Hid (TbR F (trmF g) k j A C) ∧ Hid (Strs wr w3.heap.size (.slice aT (trmF g).length cT) (trmF g)))
      case atStart => exact ⟨0, A, C, Nat.zero_le _, rfl, rfl, HO4, hR, HST⟩
      case round =>
        clear hR
        obtain ⟨j, A, C, hj, rfl, rfl, hO, hR, hn⟩ := hrel
        by_cases hjl : j < (trmF g).length
        · obtain ⟨b2, o2, e, h4⟩ := hn.out.at.elem hjl
          cases e
          have htm := HT.out.trm (termsOk hm) (List.getElem_mem hjl)
          have hca := Lib.hid (hact.out (trmF g)[j] htm wr hO.out.n)
          have htd := Lib.hid (told_any (trmF g)[j])
          have hAC := hR.out.len (by omega) hTl
          have h00 := Lib.hid (fun h1 h2 => hR.out.s00 hjl h1 h2)
          have h10 := Lib.hid (fun h1 h2 => hR.out.s10 hjl h1 h2)
          have h01 := Lib.hid (fun h1 h2 (x : Cl) h3 h4 => hR.out.s01 (x := x) hjl h1 h2 h3 h4)
          have h11 := Lib.hid (fun h1 h2 (x : Cl) h3 h4 => hR.out.s11 (x := x) hjl h1 h2 h3 h4)
          have e1 : F k (trmF g)[j] = stF g Γ (LsR R) k (trmF g)[j] := by rw [HF.out]
          rw [← e1] at hca
          have hs0 := hsm0.out (trmF g)[j]
          rw [← e1] at hs0
          clear hR e1 htm
          generalize (trmF g)[j] = t at *
          generalize F k t = st at *
          obtain ⟨a0, cf⟩ := st
          simp only at hca h00 h10 h01 h11 hs0
          have hO1 := hO
          obtain ⟨aA', cA', eA'⟩ := owns_slice hO.out.oa
          obtain ⟨aC', cC', eC'⟩ := owns_slice hO.out.oc
          subst eA'; subst eC'
          clear hO
          by_cases ha : a0 = .err
          · subst ha
            have hkd := Lib.hid (fun W => kind_any .err (fun n e => by cases e) W)
            simp only [Actn.kd] at hkd
            cases cf with
            | false =>
              go_wp2_with (first | (go_at_call 79; refine hca.out.mono ?_; rintro e w5 ⟨cv, lc, rfl, hcv, hne, hsm, hlc, hn5⟩; obtain ⟨ac, cc, ec⟩ := owns_slice hcv; subst ec; have hlc0 := (show lc.length = 0 by rcases lc with _ | ⟨x, lc⟩; rfl; exact absurd (hne.1 (by simp)) (by simp)); have hO5 := Lib.hid (hO1.out.mono hn5); have hC5 := Lib.hid (owns_base hcv (Nat.zero_le _)); have hcl := Lib.hid (fun W (hW : W.ownsRow 0 119 1 (.slice ac lc.length cc) lc.length (lc.map Actn.val)) => clash_any k t _ lc W hW (fun x hx => sml_red (hsm x hx)) (by omega)); have hN5 := Lib.hid (ownsRow_new hn.out hn5); clear hcv hne hsm hn5) | (go_at_call 80; refine (hkd.out _).mono ?_; rintro e w' ⟨rfl, rfl⟩) | (go_at_call 52; refine (htd.out _).mono ?_; rintro e w' ⟨rfl, rfl⟩))
              go_roundg ((trmF g).length - (j + 1))
              case measure => omega
              case rel => exact ⟨j + 1, A, C, by omega, rfl, by go_num, hO5, Lib.hid (h00.out (by simp) (by simp)), hN5⟩
            | true =>
              go_wp2_with (first | (go_at_call 79; refine hca.out.mono ?_; rintro e w5 ⟨cv, lc, rfl, hcv, hne, hsm, hlc, hn5⟩; obtain ⟨ac, cc, ec⟩ := owns_slice hcv; subst ec; have hlc0 := (show 0 < lc.length by rcases lc with _ | ⟨x, lc⟩; exact absurd (hne.2 rfl) (by simp); simp); have hO5 := Lib.hid (hO1.out.mono hn5); have hC5 := Lib.hid (owns_base hcv (Nat.zero_le _)); have hcl := Lib.hid (fun W (hW : W.ownsRow 0 119 1 (.slice ac lc.length cc) lc.length (lc.map Actn.val)) => clash_any k t _ lc W hW (fun x hx => sml_red (hsm x hx)) (by omega)); have hN5 := Lib.hid (ownsRow_new hn.out hn5); clear hcv hne hsm hn5) | (go_at_call 80; refine (hkd.out _).mono ?_; rintro e w' ⟨rfl, rfl⟩) | (go_at_call 52; refine (htd.out _).mono ?_; rintro e w' ⟨rfl, rfl⟩) | (go_at_call 86; refine (hcl.out _ hC5.out).mono ?_; rintro e w7 ⟨x, rfl, hx1, hx2, hn7⟩; have hO7 := Lib.hid (hO5.out.mono hn7); have hx := Lib.hid (And.intro hx1 (And.intro hx2 hn7)); clear hx1 hx2 hn7; obtain ⟨x1, x2, ⟨x3, x4, x5⟩, ⟨x6, x7, x8⟩⟩ := x; simp only [cl4]) | (at_builtin; go_must (refine wpList_push _ rfl _ _ _ _ rfl T50 w2.heap.size _ _ _ rfl hO7.out.oc [_, _, _, _] rfl rfl _ _ rfl (by simp) (by omega) (by omega) hO7.out.n.size ?_)))
              intro v8 w8 hown8 hgrow8 hne8 hat8
              have hO8 := Lib.hid (hO7.out.pushC (x := (x1, x2, (x3, x4, x5), (x6, x7, x8))) hown8 hgrow8)
              have hR8 := Lib.hid (h01.out (by simp) (by simp) (x1, x2, (x3, x4, x5), (x6, x7, x8)) hx.out.1 hx.out.2.1)
              have hS7 := ownsRow_new hN5.out hx.out.2.2
              have hS8 := Lib.hid (World.ownsRow.kept hS7 hgrow8 (ownBlock_ne_row hS7 hO7.out.oc (by decide)))
              obtain ⟨a9, c9, e9⟩ := owns_slice hown8
              subst e9
              clear hown8 hgrow8 hne8 hat8 hS7
              go_wp2
              go_roundg ((trmF g).length - (j + 1))
              case measure => omega
              case rel => exact ⟨j + 1, _, _, by omega, rfl, by go_num, hO8, hR8, hS8⟩
          · have hkd := Lib.hid (fun W => kind_any a0 (sml_red hs0) W)
            have hkp := kd_pos ha
            have HA := Lib.hid ha
            have hac : ac4 (acOf k t a0) = [.int .i64 (k : Int), sv (toldS t), .int .i64 a0.kd.1, .int .i64 a0.kd.2] := rfl
            have HAC := Lib.hid hac
            clear ha hac
            generalize a0.kd = kk at *
            obtain ⟨k1, k2⟩ := kk
            simp only at hkp hkd HAC
            cases cf with
            | false =>
              go_wp2_with (first | (go_at_call 79; refine hca.out.mono ?_; rintro e w5 ⟨cv, lc, rfl, hcv, hne, hsm, hlc, hn5⟩; obtain ⟨ac, cc, ec⟩ := owns_slice hcv; subst ec; have hlc0 := (show lc.length = 0 by rcases lc with _ | ⟨x, lc⟩; rfl; exact absurd (hne.1 (by simp)) (by simp)); have hO5 := Lib.hid (hO1.out.mono hn5); have hC5 := Lib.hid (owns_base hcv (Nat.zero_le _)); have hcl := Lib.hid (fun W (hW : W.ownsRow 0 119 1 (.slice ac lc.length cc) lc.length (lc.map Actn.val)) => clash_any k t _ lc W hW (fun x hx => sml_red (hsm x hx)) (by omega)); have hN5 := Lib.hid (ownsRow_new hn.out hn5); clear hcv hne hsm hn5) | (go_at_call 80; refine (hkd.out _).mono ?_; rintro e w' ⟨rfl, rfl⟩) | (go_at_call 52; refine (htd.out _).mono ?_; rintro e w' ⟨rfl, rfl⟩) | (at_builtin; go_must (refine wpList_push _ rfl _ _ _ _ rfl T49 w2.heap.size _ _ _ rfl hO5.out.oa [_, _, _, _] rfl rfl _ _ rfl (by simp) (by omega) (by omega) hO5.out.n.size ?_)))
              intro v6 w6 hown6 hgrow6 hne6 hat6
              have hO6 := Lib.hid (hO5.out.pushA (x := acOf k t a0) (by rw [HAC.out]; exact hown6) hgrow6)
              have hS6 := Lib.hid (World.ownsRow.kept hN5.out hgrow6 (ownBlock_ne_row hN5.out hO5.out.oa (by decide)))
              obtain ⟨a9, c9, e9⟩ := owns_slice hown6
              subst e9
              clear hown6 hgrow6 hne6 hat6
              go_wp2
              go_roundg ((trmF g).length - (j + 1))
              case measure => omega
              case rel => exact ⟨j + 1, _, C, by omega, rfl, by go_num, hO6, Lib.hid (h10.out HA.out (by simp)), hS6⟩
            | true =>
              go_wp2_with (first | (go_at_call 79; refine hca.out.mono ?_; rintro e w5 ⟨cv, lc, rfl, hcv, hne, hsm, hlc, hn5⟩; obtain ⟨ac, cc, ec⟩ := owns_slice hcv; subst ec; have hlc0 := (show 0 < lc.length by rcases lc with _ | ⟨x, lc⟩; exact absurd (hne.2 rfl) (by simp); simp); have hO5 := Lib.hid (hO1.out.mono hn5); have hC5 := Lib.hid (owns_base hcv (Nat.zero_le _)); have hcl := Lib.hid (fun W (hW : W.ownsRow 0 119 1 (.slice ac lc.length cc) lc.length (lc.map Actn.val)) => clash_any k t _ lc W hW (fun x hx => sml_red (hsm x hx)) (by omega)); have hN5 := Lib.hid (ownsRow_new hn.out hn5); clear hcv hne hsm hn5) | (go_at_call 80; refine (hkd.out _).mono ?_; rintro e w' ⟨rfl, rfl⟩) | (go_at_call 52; refine (htd.out _).mono ?_; rintro e w' ⟨rfl, rfl⟩) | (at_builtin; go_must (refine wpList_push _ rfl _ _ _ _ rfl T49 w2.heap.size _ _ _ rfl hO5.out.oa [_, _, _, _] rfl rfl _ _ rfl (by simp) (by omega) (by omega) hO5.out.n.size ?_)))
              intro v6 w6 hown6 hgrow6 hne6 hat6
              have hO6 := Lib.hid (hO5.out.pushA (x := acOf k t a0) (by rw [HAC.out]; exact hown6) hgrow6)
              have hS6 := Lib.hid (World.ownsRow.kept hN5.out hgrow6 (ownBlock_ne_row hN5.out hO5.out.oa (by decide)))
              have hC6 := Lib.hid (World.ownsRow.kept hC5.out hgrow6 (ownBlock_ne_row hC5.out hO5.out.oa (by decide)))
              obtain ⟨a9, c9, e9⟩ := owns_slice hown6
              subst e9
              clear hown6 hgrow6 hne6 hat6
              go_wp2_with (first | (go_at_call 86; refine (hcl.out _ hC6.out).mono ?_; rintro e w7 ⟨x, rfl, hx1, hx2, hn7⟩; have hO7 := Lib.hid (hO6.out.mono hn7); have hx := Lib.hid (And.intro hx1 (And.intro hx2 hn7)); clear hx1 hx2 hn7; obtain ⟨x1, x2, ⟨x3, x4, x5⟩, ⟨x6, x7, x8⟩⟩ := x; simp only [cl4]) | (at_builtin; go_must (refine wpList_push _ rfl _ _ _ _ rfl T50 w2.heap.size _ _ _ rfl hO7.out.oc [_, _, _, _] rfl rfl _ _ rfl (by simp) (by omega) (by omega) hO7.out.n.size ?_)))
              intro v8 w8 hown8 hgrow8 hne8 hat8
              have hO8 := Lib.hid (hO7.out.pushC (x := (x1, x2, (x3, x4, x5), (x6, x7, x8))) hown8 hgrow8)
              have hR8 := Lib.hid (h11.out HA.out (by simp) (x1, x2, (x3, x4, x5), (x6, x7, x8)) hx.out.1 hx.out.2.1)
              have hS7 := ownsRow_new hS6.out hx.out.2.2
              have hS8 := Lib.hid (World.ownsRow.kept hS7 hgrow8 (ownBlock_ne_row hS7 hO7.out.oc (by decide)))
              obtain ⟨a9, c9, e9⟩ := owns_slice hown8
              subst e9
              clear hown8 hgrow8 hne8 hat8 hS7
              go_wp2
              go_roundg ((trmF g).length - (j + 1))
              case measure => omega
              case rel => exact ⟨j + 1, _, _, by omega, rfl, by go_num, hO8, hR8, hS8⟩
        · have hR2 := Lib.hid (hR.out.next (by omega))
          have hO2 := hO
          obtain ⟨aA', cA', eA'⟩ := owns_slice hO.out.oa
          obtain ⟨aC', cC', eC'⟩ := owns_slice hO.out.oc
          subst eA'; subst eC'
          clear hO hR
          go_wp2_with fail
          go_roundg (R.length - (k + 1))
          case measure => omega
          case rel => exact ⟨k + 1, A, C, by omega, rfl, by go_num, hO2, hR2, Lib.hid (fun _ => HT.out)⟩
    · obtain rfl : k = R.length := by omega
      have hGn := HG.out.1.mono hO.out.n
      have hq := Lib.hid (edges_any hg hGn hRl HG.out.2.2.1 _ (HG.out.2.2.2.2.1.new hO.out.n) true)
      have hR0 : 0 < R.length := by
        have := (List.getElem?_eq_some_iff.1 HG.out.1.gam.zero).1
        rw [HLEN.out]; exact this
      have HTR := Lib.hid (hTk.out hR0)
      obtain ⟨aA', cA', eA'⟩ := owns_slice hO.out.oa
      obtain ⟨aC', cC', eC'⟩ := owns_slice hO.out.oc
      subst eA'; subst eC'
      have HO := Lib.hid (And.intro hO.out hR.out.fin)
      clear hO hR hTk hGn
      go_wp2_with (go_at_call 66; refine hq.out.mono ?_; rintro e w5 ⟨vE, E, rfl, hE, hin, hsE, hn5⟩; have HF5 := Lib.hid (And.intro (HO.out.1.mono hn5) (And.intro hE hin)); obtain ⟨aE, cE, eE⟩ := owns_slice hE; subst eE; clear hE hin hsE)
      (try simp only [Exit.inBlock, Exit.then])
      refine bodyPost_ret (results_four rfl _ _ _) rfl ?_
      refine ⟨_, _, _, c, LsR R, E, C, rfl, HG.out.2.1, ?_, HG.out.2.2.2.1.trans HF5.out.1.n⟩
      obtain ⟨hO5, hE, hin⟩ := HF5.out
      obtain ⟨_, hA, hC⟩ := HO.out
      rw [← HΓ.out]
      rw [HF.out, HLEN.out] at hA hC
      rw [HLEN.out] at hin
      refine ⟨by rw [← HLEN.out]; simp [LsR], fun k γ l h1 h2 i => ?_, HTR.out, by rw [← hA]; exact RowK.of_owns ac4_len hO5.oa, Row3.of_owns hE, hin, RowK.of_owns cl4_len hO5.oc, hC⟩
      have hk : k < R.length := by rw [HLEN.out]; exact (List.getElem?_eq_some_iff.1 h1).1
      have e1 : Γ[k]'(by rw [← HLEN.out]; exact hk) = γ := (List.getElem?_eq_some_iff.1 h1).2
      have e2 : R[k].L.map (·.2) = l := by
        unfold LsR at h2
        rw [List.getElem?_map, List.getElem?_eq_getElem hk] at h2
        exact Option.some.inj h2
      rw [← e1, ← e2]
      exact (HG.out.1.recs k hk).all i
end Go.Proofs.YtdejcdmgcckmoaaGreatDoor

/- The package: states and the ways between them. -/
import Derived.Test.YtdejcdmgcckmoaaGreatDoorYP
namespace Go.Proofs.YtdejcdmgcckmoaaGreatDoor
open Go.RowKit Lr

theorem ownsRow_weak {w : World} {B B' e s : Nat} {v : Value} {n : Nat} {xs : List Value} (h : w.ownsRow B e s v n xs) (hB : B' ≤ B) : w.ownsRow B' e s v n xs := by
  refine ⟨h.1, ?_⟩
  rcases h.2 with h | ⟨g, cap, cur, e, hb, r⟩
  · exact .inl h
  · exact .inr ⟨g, cap, cur, e, Nat.le_trans hB hb, r⟩
theorem ISt.weak {g : Gram} {w0 w : World} {B B' p m1 m2 : Nat} {no : Int} {v e1 e2 e3 : Value} {L : List (Nat × Itm)} {n1 : Nat} (h : ISt g w0 w B p m1 m2 no v L n1 e1 e2 e3) (hB : B' ≤ B) : ISt g w0 w B' p m1 m2 no v L n1 e1 e2 e3 :=
  ⟨h.blk, h.imap, ownsRow_weak h.row hB, h.its, Nat.le_trans hB h.pB, Nat.le_trans hB h.m1B⟩

/-- A set of items of the package that is a state's. -/
structure StAt (g : Gram) (w0 w : World) (B p m1 m2 : Nat) (no : Int) (v : Value) (L : List (Nat × Itm)) (n : Nat) (e1 e2 e3 : Value) (γ : List Str) : Prop where
  st : ISt g w0 w B p m1 m2 no v L n e1 e2 e3
  n : n ≤ L.length
  nd : (L.map (·.2)).Nodup
  all : ∀ j, j ∈ L.map (·.2) ↔ Vld g γ j
  mne : m1 ≠ m2
section
variable {g : Gram} {w0 w w' : World} {B p m1 m2 : Nat} {no : Int} {v e1 e2 e3 : Value} {L : List (Nat × Itm)} {n : Nat} {γ : List Str}
theorem StAt.new (h : StAt g w0 w B p m1 m2 no v L n e1 e2 e3 γ) (hn : New w w') : StAt g w0 w' B p m1 m2 no v L n e1 e2 e3 γ := ⟨h.st.new hn, h.n, h.nd, h.all, h.mne⟩
theorem StAt.vld (h : StAt g w0 w B p m1 m2 no v L n e1 e2 e3 γ) : ∀ x ∈ L, Vld g γ x.2 := fun x hx => (h.all _).1 (List.mem_map.2 ⟨x, hx, rfl⟩)
theorem StAt.len (hm : Sm g) (h : StAt g w0 w B p m1 m2 no v L n e1 e2 e3 γ) : L.length ≤ 3185 := by
  have := items_le hm.len hm.body h.nd (fun j hj => (h.all j).1 hj)
  simpa using this
end
theorem CSt.state {g : Gram} {w0 w wr : World} {γ : List Str} {base : List Itm} {p m1 m2 : Nat} {e1 e2 e3 v : Value} {out : List (Nat × Itm)} {n : Nat} (h : CSt g w0 w wr γ base p m1 m2 e1 e2 e3 v out n out.length) (hB : Base g γ base) : StAt g w0 wr w.heap.size p m1 m2 (-1) v out n e1 e2 e3 γ := by
  obtain ⟨h1, h2⟩ := h.cls.all hB (by rw [List.length_map]; exact Nat.le_refl _)
  exact ⟨h.st, h.n, h1, h2, h.mne⟩

theorem shfL_append {g : Gram} (X : Str) (l m : List Itm) : shfL g X (l ++ m) = shfL g X l ++ shfL g X m := by unfold shfL; rw [List.filter_append, List.map_append]
theorem shfL_one_yes {g : Gram} {X : Str} {i : Itm} (h : (i.rest g)[0]? = some X) : shfL g X [i] = [⟨i.prod, i.dot + 1, i.look⟩] := by simp [shfL, h]
theorem shfL_one_no {g : Gram} {X : Str} {i : Itm} (h : (i.rest g)[0]? ≠ some X) : shfL g X [i] = [] := by simp [shfL, h]
theorem rest_zero {g : Gram} {i : Itm} : (i.rest g)[0]? = (Lr.body g i.prod)[i.dot]? := by unfold Itm.rest; rw [List.getElem?_drop]; rfl

set_option maxRecDepth 20000 in
set_option maxHeartbeats 4000000 in
theorem Goto_any {g : Gram} (hg : GOk g) {w0 w : World} {ps fp : Nat} {prods : Value} (hc : Ctx g w0 ps fp prods) (hn : New w0 w) {B p m1 m2 n1 : Nat} {no : Int} {v : Value} {L : List (Nat × Itm)} {γ : List Str}
    (h : StAt g w0 w B p m1 m2 no v L n1 (.pointer (some ⟨ps, 0, none⟩)) prods (.pointer (some ⟨fp, 0, none⟩)) γ) (X : Str) :
    Calls Tryz.prog 151 #[.pointer (some ⟨p, 0, none⟩), sv X] w fun e w' => ∃ p' m1' m2' v' L' n', e = .returned (.pointer (some ⟨p', 0, none⟩)) ∧ StAt g w0 w' w.heap.size p' m1' m2' (-1) v' L' n' (.pointer (some ⟨ps, 0, none⟩)) prods (.pointer (some ⟨fp, 0, none⟩)) (γ ++ [X]) ∧
      MapF Tryz.prog 9 w' m2' 0 (fun _ => none) ∧ w.heap.size ≤ m2' ∧ New w w' := by
  have c2 := cell_of_blk h.st.blk 2
  have c4 := cell_of_blk h.st.blk 4
  have c5 := cell_of_blk h.st.blk 5
  have c6 := cell_of_blk h.st.blk 6
  simp only [List.getElem?_toArray, List.getElem?_cons_zero, List.getElem?_cons_succ] at c2 c4 c5 c6
  obtain ⟨a5, k5, rfl, hk5, hpr⟩ := hc.prods
  have hLl := h.len hg.toSm
  have hBS := base_shf h.nd h.all X
  have lp := lt_of_block h.st.blk
  obtain ⟨a2, k2, rfl⟩ := owns_slice h.st.row
  have hcl : 0 < L.length → ∃ gb, a2 = some ⟨gb, 0, none⟩ ∧ ∀ j, (hj : j < L.length) → w.cell? ⟨gb, j, none⟩ = some (.pointer (some ⟨L[j].1, 0, none⟩)) := fun h0 => by
    obtain ⟨gb, cap, e, _, _, hcc⟩ := row_ptr h.st.row h0
    cases e
    exact ⟨gb, rfl, fun j hj => hcc j _ (by rw [List.getElem?_map, List.getElem?_eq_getElem hj]; rfl)⟩
  have hq2 := Lib.hid (NewItemSet_any g w0 w.drew ps fp a5 (augP g).length k5)
  have hnd : New w w.drew := (New.refl w).drewN 1
  have HD := Lib.hid hnd
  have HH := Lib.hid (And.intro h (And.intro hBS (And.intro hc (And.intro hn hcl))))
  clear h hBS hc hn hcl hpr hnd
  go_enter Tryz.func151, Tryz.ntmps151
  go_wp2
  go_still_tail 12, (by kernel_rfl)
  change wpList _ _ _ _ _ (World.drew _)
  go_wp2_with fail
  refine hq2.out.mono ?_
  rintro e w1 ⟨p', m1', m2', v1, rfl, hst1, htr1, hm2B, hmne, hn1⟩
  have hnw1 : New w w1 := HD.out.trans hn1
  have c2 := hnw1.cell c2
  have hst1 : ISt g w0 w1 w.heap.size p' m1' m2' (-1) v1 [] 0 (.pointer (some ⟨ps, 0, none⟩)) (.slice a5 (augP g).length k5) (.pointer (some ⟨fp, 0, none⟩)) := hst1
  have HM := Lib.hid (And.intro (show w.heap.size ≤ m2' from hm2B) hmne)
  clear hm2B hmne hn1 c4 c5 c6 hq2
  go_wp2_with fail
  clear c2
  go_loopg [27] L.length (fun gk u27 wr => ∃ (k : Nat) (v' : Value) (J : List (Nat × Itm)) (n' : Nat), u27 = .int .i64 k ∧ k ≤ L.length ∧ gk = L.length - k ∧
    ISt g w0 wr w.heap.size p' m1' m2' (-1) v' J n' (.pointer (some ⟨ps, 0, none⟩)) (.slice a5 (augP g).length k5) (.pointer (some ⟨fp, 0, none⟩)) ∧ n' ≤ J.length ∧ J.length ≤ k ∧ Hid (J.map (·.2) = shfL g X ((L.take k).map (·.2))) ∧ MapF Tryz.prog 9 wr m2' 0 (fun _ => none) ∧ New w wr)
  case atStart => exact ⟨0, v1, [], 0, rfl, Nat.zero_le _, rfl, hst1, Nat.le_refl _, Nat.le_refl _, Lib.hid (by simp [shfL]), htr1, hnw1⟩
  case round =>
    clear hst1 htr1 hnw1
    obtain ⟨k, v', J, n', rfl, hk, rfl, hst, hnj, hjk, hJ, htr, hnw⟩ := hrel
    by_cases hlt : k < L.length
    · obtain ⟨gb, rfl, hcc⟩ := HH.out.2.2.2.2 (by omega)
      have d0 := hnw.cell (hcc k hlt)
      have hit := (HH.out.1.st.its _ (List.getElem_mem hlt)).new hnw
      have hvx := HH.out.1.vld _ (List.getElem_mem hlt)
      have htk : (L.take (k + 1)).map (·.2) = (L.take k).map (·.2) ++ [L[k].2] := by rw [List.take_succ_eq_append_getElem hlt, List.map_append]; rfl
      have hpre : (shfL g X ((L.take (k + 1)).map (·.2))).Nodup ∧ ∀ j ∈ shfL g X ((L.take (k + 1)).map (·.2)), Vld g (γ ++ [X]) j := by
        have e : L.map (·.2) = (L.take (k + 1)).map (·.2) ++ (L.drop (k + 1)).map (·.2) := by rw [← List.map_append, List.take_append_drop]
        have hb := HH.out.2.1
        rw [e, shfL_append] at hb
        exact ⟨(List.nodup_append.1 hb.1).1, fun j hj => (hb.2 j).2 (.base (List.mem_append.2 (.inl hj)))⟩
      have HTK := Lib.hid (And.intro htk hpre)
      clear htk hpre hcc
      obtain ⟨pr, ⟨rb, arr, hb, hrb, harr⟩, hpp⟩ := hit
      have hit : ItAt g w0 wr L[k].1 L[k].2 := ⟨pr, ⟨rb, arr, hb, hrb, harr⟩, hpp⟩
      have d4 := cell_of_blk hb 4
      have d5 := cell_of_blk hb 5
      have d7 := cell_of_blk hb 7
      simp only [List.getElem?_toArray, List.getElem?_cons_zero, List.getElem?_cons_succ] at d4 d5 d7
      have hbl := body_len hg.toSm L[k].2.prod
      have HS := Lib.hid (And.intro hst (And.intro hit (And.intro htr (And.intro hvx hnw))))
      clear hb hrb harr hpp hst hit htr hvx hnw
      generalize L[k].1 = bI at *
      generalize L[k].2 = I at *
      by_cases hd : I.dot < (Lr.body g I.prod).length
      · have hdl : decide (I.dot < (Lr.body g I.prod).length) = true := by simpa using hd
        have hgd : (Lr.body g I.prod).getD I.dot [] = (Lr.body g I.prod)[I.dot] := by simp [List.getD, hd]
        have hr0 : (I.rest g)[0]? = some (Lr.body g I.prod)[I.dot] := by rw [rest_zero, List.getElem?_eq_getElem hd]
        rw [hgd] at d5
        have HR := Lib.hid (And.intro hr0 hd)
        clear hgd hr0
        generalize (Lr.body g I.prod)[I.dot] = Y at *
        cases hXY : (X == Y) with
        | false =>
          have hne : X ≠ Y := beq_eq_false_iff_ne.1 hXY
          have HE := Lib.hid hne
          clear hne
          go_wp2
          go_quiet (fail)
          have hnq : New wr (wr.drewN nq) := (New.refl wr).drewN nq
          go_wp2
          go_roundg (L.length - (k + 1))
          case measure => omega
          case rel => exact ⟨k + 1, v', J, n', by go_num, by omega, rfl, HS.out.1.new hnq, hnj, by omega, Lib.hid (by rw [HTK.out.1, shfL_append, shfL_one_no (by rw [HR.out.1]; intro e; exact HE.out (Option.some.inj e).symm), List.append_nil]; exact hJ.out), HS.out.2.2.1.new hnq, HS.out.2.2.2.2.trans hnq⟩
        | true =>
          have hee : X = Y := eq_of_beq hXY
          subst hee
          have HY := Lib.hid HR.out.1
          go_wp2
          go_quiet (fail)
          have hnq : New wr (wr.drewN nq) := (New.refl wr).drewN nq
          have hq3 := Lib.hid (Move_any hg.toSm (HS.out.2.1.new hnq) (HH.out.2.2.2.1.trans (HS.out.2.2.2.2.trans hnq)) HR.out.2 (look_len hg.toSm HS.out.2.2.2.1.look))
          have HQ := Lib.hid hnq
          clear d0 d4 d5 d7 hnq hdl hXY hd HR
          generalize wr.drewN nq = wq at *
          go_wp2_with fail
          refine hq3.out.mono ?_
          rintro e w2 ⟨p2, rfl, hp2, hit2, hn2⟩
          have hno : hasI g J ⟨I.prod, I.dot + 1, I.look⟩ = false := by
            have e1 := HTK.out.1
            have e2 := HTK.out.2
            rw [e1, shfL_append, shfL_one_yes HY.out, ← hJ.out] at e2
            cases h : hasI g J ⟨I.prod, I.dot + 1, I.look⟩ with
            | false => rfl
            | true =>
              have h1 := (hasI_iff hg.toSm (fun x hx => e2.2 x.2 (List.mem_append.2 (.inl (List.mem_map.2 ⟨x, hx, rfl⟩)))) (e2.2 ⟨I.prod, I.dot + 1, I.look⟩ (by simp))).1 h
              exact absurd rfl ((List.nodup_append.1 e2.1).2.2 _ h1 _ (by simp))
          have hvn : Vld g (γ ++ [X]) ⟨I.prod, I.dot + 1, I.look⟩ := HTK.out.2.2 _ (by rw [HTK.out.1, shfL_append, shfL_one_yes HY.out]; simp)
          have hmap : (J ++ [(p2, (⟨I.prod, I.dot + 1, I.look⟩ : Itm))]).map (·.2) = shfL g X ((L.take (k + 1)).map (·.2)) := by
            rw [HTK.out.1, shfL_append, shfL_one_yes HY.out, ← hJ.out, List.map_append]; rfl
          have hal2 : New w2 (w2.alloc (.cells #[.pointer (some ⟨p2, 0, none⟩)] 96)) := (New.refl w2).alloc _
          have hna := (HQ.out.trans hn2).trans hal2
          have hst3 := HS.out.1.new hna
          have hszw := HS.out.2.2.2.2.size
          have hszq := (HQ.out.trans hn2).size
          have hp3 : p' < w2.heap.size := Nat.lt_of_lt_of_le (lt_of_block HS.out.1.blk) hszq
          have hq6 := Lib.hid (AddItem_any (M := [(p2, (⟨I.prod, I.dot + 1, I.look⟩ : Itm))]) (gb := w2.heap.size) (go := 0) (cc := 1) hst3 (fun j hj => by
              have e : j = 0 := by simpa using hj
              subst e
              exact cell_of_blk (heap_alloc_new w2 _) 0) (by omega)
            (fun e => by have := (HS.out.1.row.lt _ e).2; omega) (fun x hx => by
              simp at hx; subst hx
              exact hit2.new hal2) (fun x hx => by simp at hx; subst hx; exact itemStr_len hg.toSm hvn) (by simp; omega) (by simp; omega) (by simp; omega) (fun _ => by simp))
          have HA := Lib.hid (And.intro hno (And.intro hmap (And.intro hna hst3)))
          clear hno hmap hna hst3 hal2 hit2 hn2 hq3 hvn hp3 HY
          go_wp2_with fail
          refine hq6.out.mono ?_
          rintro e w5 ⟨rfl, v5, n5, hst5, hn5, hl5, hfr5⟩
          have hst5' : ISt g w0 w5 w.heap.size p' m1' m2' (-1) v5 (J ++ [(p2, (⟨I.prod, I.dot + 1, I.look⟩ : Itm))]) n5 (.pointer (some ⟨ps, 0, none⟩)) (.slice a5 (augP g).length k5) (.pointer (some ⟨fp, 0, none⟩)) := by
            have e : [(p2, (⟨I.prod, I.dot + 1, I.look⟩ : Itm))].foldl (addI g) J = _ := addI_no HA.out.1
            rw [e] at hst5
            exact hst5
          have htr5 : MapF Tryz.prog 9 w5 m2' 0 (fun _ => none) := by
            have htr := HS.out.2.2.1.new HA.out.2.2.1
            obtain ⟨es, c, hb⟩ := htr.block
            have hb' := (hfr5.blk m2' (lt_of_block hb) (fun e => by rw [e, HA.out.2.2.2.blk] at hb; cases hb) HM.out.2.symm (ownBlock_ne_map HA.out.2.2.2.row htr)).trans hb
            obtain ⟨D, ⟨es', c', h1, h2⟩, h3⟩ := htr
            rw [hb] at h1
            exact ⟨D, ⟨es', c', hb'.trans h1, h2⟩, h3⟩
          have H5 := Lib.hid (And.intro hst5' (And.intro htr5 (And.intro (show n5 ≤ n' + 1 from hn5) (show New w w5 from Below.trans (HS.out.2.2.2.2.trans HA.out.2.2.1) hfr5.below))))
          clear hst5 hn5 hl5 hfr5 hq6 hst5' htr5
          go_wp2
          go_roundg (L.length - (k + 1))
          case measure => omega
          case rel =>
            have hn5 := H5.out.2.2.1
            exact ⟨k + 1, v5, _, n5, by go_num, by omega, rfl, H5.out.1, by simp; omega, by simp; omega, Lib.hid HA.out.2.1, H5.out.2.1, H5.out.2.2.2⟩
      · have hdl : decide (I.dot < (Lr.body g I.prod).length) = false := by simpa using hd
        have hr0 : (I.rest g)[0]? = none := by rw [rest_zero]; exact List.getElem?_eq_none (by omega)
        have HR := Lib.hid hr0
        clear hr0
        go_wp2
        go_quiet (fail)
        have hnq : New wr (wr.drewN nq) := (New.refl wr).drewN nq
        go_wp2
        go_roundg (L.length - (k + 1))
        case measure => omega
        case rel => exact ⟨k + 1, v', J, n', by go_num, by omega, rfl, HS.out.1.new hnq, hnj, by omega, Lib.hid (by rw [HTK.out.1, shfL_append, shfL_one_no (by rw [HR.out]; simp), List.append_nil]; exact hJ.out), HS.out.2.2.1.new hnq, HS.out.2.2.2.2.trans hnq⟩
    · have hke : k = L.length := by omega
      have hJe : J.map (·.2) = shfL g X (L.map (·.2)) := by rw [hJ.out, hke, List.take_length]
      clear hJ
      have hq4 := Lib.hid (Size_any hst)
      by_cases hJ0 : 0 < J.length
      · have hdj : decide (0 < J.length) = true := by simpa using hJ0
        have hB2 : Base g (γ ++ [X]) (J.map (·.2)) := by rw [hJe]; exact HH.out.2.1
        have hq5 := Lib.hid (Closure_any hg HH.out.2.2.1 (HH.out.2.2.2.1.trans hnw) hst hB2 hJ0)
        have HS := Lib.hid (And.intro hnw hB2)
        clear hst htr hnw hB2 hJe
        go_wp2_with (first | (go_at_call 152; refine hq4.out.mono ?_; rintro e w' ⟨rfl, rfl⟩))
        refine hq5.out.mono ?_
        rintro e w3 ⟨p3, m3, m4, v3, L3, n3, rfl, hcs⟩
        have HC := Lib.hid hcs
        clear hcs hq5
        go_wp2
        go_ret
        have hcs := HC.out
        have hs := hcs.state HS.out.2
        have hsz := HS.out.1.size
        exact ⟨p3, m3, m4, v3, L3, n3, rfl, ⟨hs.st.weak hsz, hs.n, hs.nd, hs.all, hs.mne⟩, hcs.tr, Nat.le_trans hsz hcs.m2B, HS.out.1.trans hcs.new⟩
      · have hdj : decide (0 < J.length) = false := by simpa using hJ0
        have hJn : J = [] := List.eq_nil_of_length_eq_zero (by omega)
        subst hJn
        have HS := Lib.hid (And.intro hst (And.intro htr (And.intro hnw (And.intro hJe hnj))))
        clear hst htr hnw hJe
        go_wp2_with (first | (go_at_call 152; refine hq4.out.mono ?_; rintro e w' ⟨rfl, rfl⟩))
        go_ret
        obtain ⟨hst, htr, hnw, hJe, hnj⟩ := HS.out
        refine ⟨p', m1', m2', v', [], n', rfl, ⟨hst, hnj, by simp, fun j => ?_, HM.out.2⟩, htr, HM.out.1, hnw⟩
        have hb := HH.out.2.1
        rw [← hJe] at hb
        rw [hb.2]
        constructor
        · intro h; cases h
        · intro h
          exfalso
          induction h with
          | base h => cases h
          | close _ _ ih => exact ih
end Go.Proofs.YtdejcdmgcckmoaaGreatDoor
namespace Go.Proofs.YtdejcdmgcckmoaaGreatDoor
open Go.RowKit Lr

/-- The number of a set is written. -/
theorem ISt.setNo {g : Gram} {w0 w : World} {B p m1 m2 : Nat} {no : Int} {v e1 e2 e3 : Value} {L : List (Nat × Itm)} {n1 : Nat} (h : ISt g w0 w B p m1 m2 no v L n1 e1 e2 e3) (z : Int) :
    ISt g w0 (w.setCell ⟨p, 0, none⟩ (.int .i64 z)) B p m1 m2 z v L n1 e1 e2 e3 ∧ Kp w (w.setCell ⟨p, 0, none⟩ (.int .i64 z)) := by
  have hkp : Kp w (w.setCell ⟨p, 0, none⟩ (.int .i64 z)) := fun k c t fz e ht => blk_setOther e (fun e2 => by
    simp only at e2
    rw [← e2, h.blk] at e
    cases e
    rcases ht with h | h <;> cases h) _
  refine ⟨⟨?_, h.imap.imp fun f q => ⟨q.1.setCell (cell_of_blk h.blk 0), q.2⟩, ownsRow_setCell_other h.row (a := ⟨p, 0, none⟩) (ownBlock_ne h.row h.blk (by decide)) _, fun x hx => (h.its x hx).kp hkp, h.pB, h.m1B⟩, hkp⟩
  have := set_of_blk h.blk 0 (.int .i64 z)
  simpa using this

set_option maxRecDepth 20000 in
set_option maxHeartbeats 4000000 in
theorem InitialItemSet_any {g : Gram} (hm : Sm g) {w0 w : World} {x ps fp y : Nat} {prods : Value} (hn : New w0 w) (hx : w0.cell? ⟨x, 0, none⟩ = some (.pointer (some ⟨y, 0, none⟩))) (hy : w0.cell? ⟨y, 1, none⟩ = some prods) (hp : ProdsAt w0 prods (augP g)) :
    Calls Tryz.prog 148 #[.pointer (some ⟨x, 0, none⟩), .pointer (some ⟨ps, 0, none⟩), .pointer (some ⟨fp, 0, none⟩)] w fun e w' => ∃ p m1 m2 v b n, e = .returned (.pointer (some ⟨p, 0, none⟩)) ∧
      ISt g w0 w' w.heap.size p m1 m2 0 v [(b, ⟨none, 0, endS⟩)] n (.pointer (some ⟨ps, 0, none⟩)) prods (.pointer (some ⟨fp, 0, none⟩)) ∧ New w w' := by
  have c0 := hn.cell hx
  have c1 := hn.cell hy
  obtain ⟨a5, k5, rfl, hk5, hpr⟩ := hp
  obtain ⟨pb0, po0, rfl, hpc⟩ := hpr (by simp [augP])
  have hl0 : 0 < (augP g).length := by simp [augP]
  obtain ⟨pv, hpv, hpp⟩ := hpc 0 hl0
  have hap : (augP g)[0] = apOf g none := rfl
  rw [hap] at hpp
  have d0 := hn.cell hpv
  rw [Nat.add_zero] at d0
  have hpp0 := hpp
  obtain ⟨pb, q, sa, sc, rfl, _⟩ := hpp
  have lx := lt_of_cell c0
  have ly := lt_of_cell c1
  have ld := lt_of_cell d0
  have hq2 := Lib.hid (NewItemSet_any g w0 w ps fp (some ⟨pb0, po0, none⟩) (augP g).length k5)
  have HH := Lib.hid (And.intro hn hpp0)
  clear hn hx hy hpr hpc hpv hpp0 hap
  go_enter Tryz.func148, Tryz.ntmps148
  go_wp2_with fail
  refine hq2.out.mono ?_
  rintro e w1 ⟨p', m1', m2', v1, rfl, hst1, htr1, hm2B, hmne, hn1⟩
  have HC := Lib.hid (And.intro c0 (And.intro c1 (And.intro d0 hn1)))
  have hp3 : p' ≠ x ∧ p' ≠ y ∧ p' ≠ pb0 := by have := hst1.pB; omega
  have c0 := hn1.cell c0
  have c1 := hn1.cell c1
  have d0 := hn1.cell d0
  have f0 := free_of_blk hst1.blk 0
  have g0 := cell_of_blk hst1.blk 0
  simp only [List.getElem?_toArray, List.getElem?_cons_zero] at g0
  have hpB := hst1.pB
  have HS := Lib.hid hst1
  obtain ⟨n1, n2, n3⟩ := hp3
  clear hst1 htr1 hm2B hmne hn1
  go_wp2_with fail
  have hs2 := HS.out.setNo 0
  have hn2 : New w (w1.setCell ⟨p', 0, none⟩ (.int .i64 0)) := Below.setCell (p := ⟨p', 0, none⟩) HC.out.2.2.2 hpB _
  clear c0 c1 d0 f0 g0
  generalize w1.setCell ⟨p', 0, none⟩ (.int .i64 0) = w2 at *
  have hq4 : Hid (Calls Tryz.prog 180 #[.int .i64 0, .pointer (some ⟨pb, 0, none⟩), .int .i64 0, sv eofS] w2 fun e w' => ∃ p, e = .returned (.pointer (some ⟨p, 0, none⟩)) ∧ w2.heap.size ≤ p ∧ ItAt g w0 w' p ⟨none, 0, endS⟩ ∧ New w2 w') :=
    Lib.hid (NewItem_any hm (i := ⟨none, 0, endS⟩) HH.out.2 (HH.out.1.trans hn2) (Nat.zero_le _) (by decide))
  have H2 := Lib.hid (And.intro hs2.1 hn2)
  have hszw := hn2.size
  clear hs2 hn2
  refine hq4.out.mono ?_
  rintro e w3 ⟨b, rfl, hb, hit, hn3⟩
  have hal3 : New w3 (w3.alloc (.cells #[.pointer (some ⟨b, 0, none⟩)] 96)) := (New.refl w3).alloc _
  have hst3 := H2.out.1.new (hn3.trans hal3)
  have hszq := hn3.size
  have hpl := lt_of_block H2.out.1.blk
  have hq6 := Lib.hid (AddItem_any (M := [(b, (⟨none, 0, endS⟩ : Itm))]) (gb := w3.heap.size) (go := 0) (cc := 1) hst3 (fun j hj => by
      have e : j = 0 := by simpa using hj
      subst e
      exact cell_of_blk (heap_alloc_new w3 _) 0) (by omega)
    (fun e => by have := (H2.out.1.row.lt _ e).2; omega) (fun x hx => by
      simp at hx; subst hx
      exact hit.new hal3) (fun x hx => by simp at hx; subst hx; exact itemStr_len hm (γ := []) .init) (by simp) (by simp) (by simp; omega) (fun _ => by simp))
  have H3 := Lib.hid (H2.out.2.trans (hn3.trans hal3))
  clear hst3 hal3 hit hn3 hq4
  go_wp2_with fail
  refine hq6.out.mono ?_
  rintro e w5 ⟨rfl, v5, n5, hst5, hn5, hl5, hfr5⟩
  have H5 := Lib.hid (And.intro hst5 hfr5)
  clear hst5 hl5 hfr5 hq6
  go_wp2
  go_ret
  exact ⟨p', m1', m2', v5, b, n5, rfl, H5.out.1, Below.trans H3.out H5.out.2.below⟩
end Go.Proofs.YtdejcdmgcckmoaaGreatDoor
namespace Go.Proofs.YtdejcdmgcckmoaaGreatDoor
open Go.RowKit Lr

set_option maxRecDepth 20000 in
set_option maxHeartbeats 1000000 in
theorem AddTransition_any {w : World} {p m1 m2 n2 : Nat} {no v e1 e2 e3 : Value} {ft : Str → Option Value} (hb : w.heap[p]? = some (.cells #[no, .map (some m1), v, .map (some m2), e1, e2, e3] 95 (0, 0)))
    (hf : MapF Tryz.prog 9 w m2 n2 ft) (hn : n2 ≤ 1000000) {X : Str} (hX : X.length ≤ 1000000) (hno : ft X = none) (j : Nat) :
    Calls Tryz.prog 154 #[.pointer (some ⟨p, 0, none⟩), sv X, .int .i64 j] w fun e w' => e = .returned (.tuple #[]) ∧ MapF Tryz.prog 9 w' m2 (n2 + 1) (putF ft X (.int .i64 j)) ∧ w.grownBy w' (some m2) := by
  have c3 := cell_of_blk hb 3
  simp only [List.getElem?_toArray, List.getElem?_cons_zero, List.getElem?_cons_succ] at c3
  have hs : (ft X).isSome = false := by rw [hno]; rfl
  clear hb hno
  go_enter Tryz.func154, Tryz.ntmps154
  go_wp2_with (first
    | (at_lookup; refine wpList_look_ok _ rfl _ _ _ _ rfl Tryz.underlying9 Tryz.underlying91 (z3 _) m2 n2 ft rfl hf X rfl (by omega) ?_; rw [hs])
    | (at_mapUpdate; go_must (refine wpList_mstore _ rfl _ _ _ _ _ rfl Tryz.underlying9 Tryz.underlying91 m2 n2 ft rfl hf (by omega) X rfl (by omega) _ rfl ?_)))
  intro w3 hf3 hg3
  have HF := Lib.hid (And.intro hf3 hg3)
  clear hf hf3 hg3 c3
  go_wp2
  go_end0
  exact ⟨rfl, HF.out.1, ⟨HF.out.2.os, HF.out.2.tape, HF.out.2.output, HF.out.2.size, HF.out.2.block⟩⟩

/-- Two states' sets are equal if what they stand for is. -/
theorem state_eq {g : Gram} (hm : Sm g) {w0 w : World} {B p m1 m2 B' p' m1' m2' : Nat} {no no' : Int} {v e1 e2 e3 v' e1' e2' e3' : Value} {L L' : List (Nat × Itm)} {n n' : Nat} {γ γ' : List Str}
    (h : StAt g w0 w B p m1 m2 no v L n e1 e2 e3 γ) (h' : StAt g w0 w B' p' m1' m2' no' v' L' n' e1' e2' e3' γ') : (decide (L.length = L'.length) && L.all fun x => hasI g L' x.2) = true ↔ Same g γ γ' := by
  rw [Bool.and_eq_true, decide_eq_true_eq, List.all_eq_true]
  have key : ∀ x ∈ L, (hasI g L' x.2 = true ↔ x.2 ∈ L'.map (·.2)) := fun x hx => hasI_iff hm h'.vld (h.vld x hx)
  constructor
  · rintro ⟨h1, h2⟩ j
    have hsub : ∀ j ∈ L.map (·.2), j ∈ L'.map (·.2) := fun j hj => by
      obtain ⟨x, hx, rfl⟩ := List.mem_map.1 hj
      exact (key x hx).1 (h2 x hx)
    rw [← h.all, ← h'.all]
    refine ⟨hsub j, fun hj => ?_⟩
    apply Classical.byContradiction
    intro hno
    have hn : (j :: L.map (·.2)).Nodup := List.nodup_cons.2 ⟨hno, h.nd⟩
    have := nodup_le_of hn (L := L'.map (·.2)) (fun x hx => by
      rcases List.mem_cons.1 hx with rfl | hx
      · exact hj
      · exact hsub x hx)
    simp at this
    omega
  · intro hs
    have hmm : ∀ j, j ∈ L.map (·.2) ↔ j ∈ L'.map (·.2) := fun j => by rw [h.all, h'.all]; exact hs j
    refine ⟨?_, fun x hx => (key x hx).2 ((hmm _).1 (List.mem_map.2 ⟨x, hx, rfl⟩))⟩
    have h1 := nodup_le_of h.nd (fun x hx => (hmm x).1 hx)
    have h2 := nodup_le_of h'.nd (fun x hx => (hmm x).2 hx)
    simp at h1 h2
    omega
end Go.Proofs.YtdejcdmgcckmoaaGreatDoor
namespace Go.Proofs.YtdejcdmgcckmoaaGreatDoor
open Go.RowKit Lr

/-- A set of the package's list. -/
structure Rec where
  p : Nat
  m1 : Nat
  m2 : Nat
  no : Int
  v : Value
  L : List (Nat × Itm)
  n : Nat
abbrev StR (g : Gram) (w0 w : World) (B : Nat) (e1 e2 e3 : Value) (r : Rec) (γ : List Str) : Prop := StAt g w0 w B r.p r.m1 r.m2 r.no r.v r.L r.n e1 e2 e3 γ

theorem any_str {g : Gram} (hm : Sm g) {γ : List Str} {L : List (Nat × Itm)} (hL : ∀ x ∈ L, Vld g γ x.2) : ∀ s : Str, (L.any fun x => itemStr g x.2 == s) = true → s.length ≤ 1000000 := by
  intro s hs
  rw [List.any_eq_true] at hs
  obtain ⟨x, hx, e⟩ := hs
  rw [← eq_of_beq e]
  exact itemStr_len hm (hL x hx)

set_option maxRecDepth 20000 in
set_option maxHeartbeats 2000000 in
theorem GetIndex_any {g : Gram} (hm : Sm g) {w0 w : World} {B : Nat} {e1 e2 e3 : Value} {R : List Rec} {Γ : List (List Str)} (hlen : R.length = Γ.length) (hR : ∀ k (hk : k < R.length), StR g w0 w B e1 e2 e3 R[k] (Γ[k]'(by omega)))
    {q gs cap : Nat} (hq : w.cell? ⟨q, 0, none⟩ = some (.slice (some ⟨gs, 0, none⟩) R.length cap)) (hc : ∀ j (hj : j < R.length), w.cell? ⟨gs, j, none⟩ = some (.pointer (some ⟨R[j].p, 0, none⟩)))
    {B' p' m1' m2' n' : Nat} {no' : Int} {v' e1' e2' e3' : Value} {L' : List (Nat × Itm)} {γ' : List Str} (h' : StAt g w0 w B' p' m1' m2' no' v' L' n' e1' e2' e3' γ') (h0 : 0 < L'.length) (hRl : R.length ≤ 1000000) :
    Calls Tryz.prog 153 #[.pointer (some ⟨q, 0, none⟩), .pointer (some ⟨p', 0, none⟩)] w fun e w' => ∃ z : Int, e = .returned (.int .i64 z) ∧ ((z = -1 ∧ ∀ k (hk : k < R.length), ¬ Same g (Γ[k]'(by omega)) γ') ∨ ∃ k, ∃ hk : k < R.length, z = (k : Int) ∧ Same g (Γ[k]'(by omega)) γ') ∧ New w w' := by
  have hq2 := Lib.hid (Size_any h'.st)
  have hlz : ((L'.length : Int) == 0) = false := beq_eq_false_iff_ne.2 (by omega)
  have HH := Lib.hid (And.intro hR (And.intro hc h'))
  clear hR hc h'
  go_enter Tryz.func153, Tryz.ntmps153
  go_wp2_with (first
    | (go_at_call 152; refine hq2.out.mono ?_; rintro e w' ⟨rfl, rfl⟩))
  go_loopg [19] R.length (fun gk u19 wr => ∃ k : Nat, u19 = .int .i64 k ∧ k ≤ R.length ∧ gk = R.length - k ∧ Hid (∀ i (hi : i < R.length), i < k → ¬ Same g (Γ[i]'(by omega)) γ') ∧ New w wr)
  case atStart => exact ⟨0, rfl, Nat.zero_le _, rfl, Lib.hid (fun _ _ h => absurd h (Nat.not_lt_zero _)), New.refl _⟩
  case round =>
    obtain ⟨k, rfl, hk, rfl, hno, hn⟩ := hrel
    by_cases hlt : k < R.length
    · have d0 := hn.cell (HH.out.2.1 k hlt)
      have hs1 := (HH.out.1 k hlt).new hn
      have hs2 := HH.out.2.2.new hn
      have hse := state_eq hm hs1 hs2
      have hq3 := Lib.hid (EqualI_any hs1.st hs2.st (any_str hm hs1.vld))
      have HN := Lib.hid (And.intro hn (And.intro hse hlt))
      clear hn hse hs1 hs2
      generalize (decide (R[k].L.length = L'.length) && R[k].L.all fun x => hasI g L' x.2) = bb at *
      generalize R[k].p = pk at *
      cases bb with
      | true =>
        go_wp2_with fail
        refine hq3.out.mono ?_
        rintro e w3 ⟨rfl, hn3⟩
        go_wp2
        go_ret
        exact ⟨(k : Int), rfl, .inr ⟨k, HN.out.2.2, rfl, HN.out.2.1.1 (by trivial)⟩, HN.out.1.trans hn3⟩
      | false =>
        go_wp2_with fail
        refine hq3.out.mono ?_
        rintro e w3 ⟨rfl, hn3⟩
        go_wp2
        go_roundg (R.length - (k + 1))
        case measure => omega
        case rel =>
          refine ⟨k + 1, by go_num, HN.out.2.2, rfl, Lib.hid fun i hi h => ?_, HN.out.1.trans hn3⟩
          by_cases e : i < k
          · exact hno.out i hi e
          · have : i = k := by omega
            subst this
            intro hs
            have := HN.out.2.1.2 hs
            cases this
    · have HN := Lib.hid (And.intro hn hlt)
      clear hn
      go_wp2
      go_ret
      exact ⟨-1, rfl, .inl ⟨rfl, fun i hi => hno.out i hi (by have := HN.out.2; omega)⟩, HN.out.1⟩
end Go.Proofs.YtdejcdmgcckmoaaGreatDoor
namespace Go.Proofs.YtdejcdmgcckmoaaGreatDoor
open Go.RowKit Lr

/-- What is left of sets of items: their cells, and the maps but those of M. -/
structure Keep (w w' : World) (M : Nat → Prop) : Prop where
  cells : ∀ (b : Nat) (c : Array Value) (t : TypeId) (f : Nat × Nat), w.heap[b]? = some (.cells c t f) → ((t = 95 ∧ ¬ M b) ∨ t = 96 ∨ t = 99 ∨ t = 9) → w'.heap[b]? = some (.cells c t f)
  maps : ∀ b es c, w.heap[b]? = some (.map es c) → ¬ M b → w'.heap[b]? = some (.map es c)
theorem Keep.of_new {w w' : World} (h : New w w') (M : Nat → Prop) : Keep w w' M := ⟨fun _ _ _ _ e _ => h.heap e, fun _ _ _ e _ => h.heap e⟩
theorem Keep.trans {a b c : World} {M : Nat → Prop} (h : Keep a b M) (k : Keep b c M) : Keep a c M :=
  ⟨fun x y z f e t => k.cells x y z f (h.cells x y z f e t) t, fun x y z e m => k.maps x y z (h.maps x y z e m) m⟩
theorem Keep.map {w w' : World} {m : Nat} {M : Nat → Prop} (hg : w.grownBy w' (some m)) {es : Array MapEntry} {cl : Nat} (hb : w.heap[m]? = some (.map es cl)) (hM : M m) : Keep w w' M :=
  ⟨fun b c t f e _ => (hg.block b (lt_of_block e) (by intro e2; injection e2 with e2; rw [e2, hb] at e; cases e)).trans e,
   fun b es' c e hm => (hg.block b (lt_of_block e) (by intro e2; injection e2 with e2; rw [e2] at hm; exact hm hM)).trans e⟩
theorem Keep.push {w w' : World} {B : Nat} {v : Value} {n : Nat} {xs : List Value} {M : Nat → Prop} (h : w.ownsRow B 88 1 v n xs) (hg : w.grownBy w' v.ownBlock) : Keep w w' M :=
  ⟨fun b c t f e ht => (hg.block b (lt_of_block e) (fun e2 => ownBlock_ne h e (by rcases ht with ⟨rfl, _⟩ | rfl | rfl | rfl <;> decide) e2.symm)).trans e,
   fun b es c e _ => (hg.block b (lt_of_block e) (fun e2 => by
     rcases h.2 with ⟨rfl, _⟩ | ⟨g, cap, cur, rfl, _, hh, _⟩
     · simp [Value.ownBlock] at e2
     · simp [Value.ownBlock] at e2
       subst e2
       rw [hh] at e; cases e)).trans e⟩
theorem Keep.set {w : World} {q : Nat} {c : Array Value} {f : Nat × Nat} {M : Nat → Prop} (h : w.heap[q]? = some (.cells c 231 f)) (j : Nat) (u : Value) : Keep w (w.setCell ⟨q, j, none⟩ u) M :=
  ⟨fun b c' t f' e ht => blk_setOther e (fun e2 => by
    simp only at e2
    rw [← e2, h] at e
    cases e
    rcases ht with ⟨h, _⟩ | h | h | h <;> cases h) u,
   fun b es cl e _ => blk_setOther e (fun e2 => by simp only at e2; rw [← e2, h] at e; cases e) u⟩
theorem Keep.setNo {w : World} {p : Nat} {c : Array Value} {f : Nat × Nat} {M : Nat → Prop} (h : w.heap[p]? = some (.cells c 95 f)) (hM : M p) (j : Nat) (u : Value) : Keep w (w.setCell ⟨p, j, none⟩ u) M :=
  ⟨fun b c' t f' e ht => blk_setOther e (fun e2 => by
    simp only at e2
    subst e2
    rw [h] at e
    cases e
    rcases ht with ⟨_, h⟩ | h | h | h
    · exact h hM
    all_goals cases h) u,
   fun b es cl e _ => blk_setOther e (fun e2 => by simp only at e2; rw [← e2, h] at e; cases e) u⟩
theorem Keep.mono {w w' : World} {M M' : Nat → Prop} (h : Keep w w' M) (hm : ∀ b, M b → M' b) : Keep w w' M' :=
  ⟨fun b c t f e ht => h.cells b c t f e (by rcases ht with ⟨h1, h2⟩ | h; exact .inl ⟨h1, fun h => h2 (hm _ h)⟩; exact .inr h), fun b es c e h' => h.maps b es c e fun h => h' (hm _ h)⟩
theorem Keep.kp {w w' : World} {M : Nat → Prop} (h : Keep w w' M) : Kp w w' := fun b c t f e ht => h.cells b c t f e (by rcases ht with h | h <;> simp [h])
theorem MapF.keep {w w' : World} {M : Nat → Prop} {m n : Nat} {f : Str → Option Value} (h : MapF Tryz.prog 9 w m n f) (hk : Keep w w' M) (hm : ¬ M m) : MapF Tryz.prog 9 w' m n f := by
  obtain ⟨D, ⟨es, c, h1, h2⟩, h3⟩ := h
  exact ⟨D, ⟨es, c, hk.maps m es c h1 hm, h2⟩, h3⟩
theorem ISt.keep {g : Gram} {w0 w w' : World} {B p m1 m2 : Nat} {no : Int} {v e1 e2 e3 : Value} {L : List (Nat × Itm)} {n1 : Nat} {M : Nat → Prop} (h : ISt g w0 w B p m1 m2 no v L n1 e1 e2 e3) (hk : Keep w w' M) (hp : ¬ M p) (hm : ¬ M m1) : ISt g w0 w' B p m1 m2 no v L n1 e1 e2 e3 := by
  refine ⟨hk.cells _ _ _ _ h.blk (by simp [hp]), h.imap.imp fun f q => ⟨q.1.keep hk hm, q.2⟩, ⟨h.row.1, ?_⟩, fun x hx => (h.its x hx).kp hk.kp, h.pB, h.m1B⟩
  rcases h.row.2 with h | ⟨g, cap, cur, e, hb, hg, r⟩
  · exact .inl h
  · exact .inr ⟨g, cap, cur, e, hb, hk.cells _ _ _ _ hg (by simp), r⟩
theorem StAt.keep {g : Gram} {w0 w w' : World} {B p m1 m2 : Nat} {no : Int} {v e1 e2 e3 : Value} {L : List (Nat × Itm)} {n : Nat} {γ : List Str} {M : Nat → Prop} (h : StAt g w0 w B p m1 m2 no v L n e1 e2 e3 γ) (hk : Keep w w' M) (hp : ¬ M p) (hm : ¬ M m1) : StAt g w0 w' B p m1 m2 no v L n e1 e2 e3 γ :=
  ⟨h.st.keep hk hp hm, h.n, h.nd, h.all, h.mne⟩

/-- What a state's map of ways on holds: D: the symbols that have been tried. -/
def TrOk (g : Gram) (Γ : List (List Str)) (k : Nat) (D : List Str) (f : Str → Option Value) : Prop :=
  ∀ γ, Γ[k]? = some γ → (∀ X ∈ D, Live g (γ ++ [X]) → ∃ j : Nat, f X = some (.int .i64 j) ∧ EdgeC g Γ k X j) ∧ ∀ X, f X ≠ none → X ∈ D ∧ Live g (γ ++ [X])
theorem TrOk.ext {g : Gram} {Γ : List (List Str)} {k : Nat} (hk : k < Γ.length) {D : List Str} {f : Str → Option Value} (h : TrOk g Γ k D f) (L : List (List Str)) : TrOk g (Γ ++ L) k D f := by
  intro γ hγ
  rw [List.getElem?_append_left hk] at hγ
  obtain ⟨h1, h2⟩ := h γ hγ
  refine ⟨fun X hX hl => ?_, h2⟩
  obtain ⟨j, hj, a, b, ha, hb, hc⟩ := h1 X hX hl
  refine ⟨j, hj, a, b, ?_, ?_, hc⟩
  · rw [List.getElem?_append_left hk]; exact ha
  · have hjl := (List.getElem?_eq_some_iff.1 hb).1
    rw [List.getElem?_append_left hjl]; exact hb
/-- A symbol that leads nowhere. -/
theorem TrOk.dead {g : Gram} {Γ : List (List Str)} {k : Nat} {D : List Str} {f : Str → Option Value} (h : TrOk g Γ k D f) {γ : List Str} (hγ : Γ[k]? = some γ) {X : Str} (hX : ¬ Live g (γ ++ [X])) : TrOk g Γ k (D ++ [X]) f := by
  intro γ' hγ'
  rw [hγ] at hγ'
  cases hγ'
  obtain ⟨h1, h2⟩ := h γ hγ
  refine ⟨fun Y hY hl => ?_, fun Y hY => ⟨List.mem_append.2 (.inl (h2 Y hY).1), (h2 Y hY).2⟩⟩
  rcases List.mem_append.1 hY with hY | hY
  · exact h1 Y hY hl
  · simp at hY; subst hY; exact absurd hl hX
theorem TrOk.put {g : Gram} {Γ : List (List Str)} {k : Nat} {D : List Str} {f : Str → Option Value} (h : TrOk g Γ k D f) {X : Str} {j : Nat} (he : EdgeC g Γ k X j) : TrOk g Γ k (D ++ [X]) (putF f X (.int .i64 j)) := by
  intro γ hγ
  obtain ⟨a, b, ha, hb, hl, hs⟩ := he
  rw [hγ] at ha
  cases ha
  obtain ⟨h1, h2⟩ := h γ hγ
  refine ⟨fun Y hY hlY => ?_, fun Y hY => ?_⟩
  · by_cases e : Y = X
    · subst e; exact ⟨j, by simp [putF], γ, b, hγ, hb, hl, hs⟩
    · rcases List.mem_append.1 hY with hY | hY
      · obtain ⟨i, hi, hE⟩ := h1 Y hY hlY
        exact ⟨i, by unfold putF; rw [if_neg e]; exact hi, hE⟩
      · simp at hY; exact absurd hY e
  · by_cases e : Y = X
    · subst e; exact ⟨by simp, hl⟩
    · have : f Y ≠ none := by
        unfold putF at hY
        rw [if_neg e] at hY
        exact hY
      exact ⟨List.mem_append.2 (.inl (h2 Y this).1), (h2 Y this).2⟩

/-- The package's list of states in memory; D: the symbols that each state has tried. -/
structure GSt (g : Gram) (w0 w wr : World) (e1 e2 e3 : Value) (q : Nat) (vS : Value) (R : List Rec) (Γ : List (List Str)) (D : Nat → List Str) : Prop where
  len : R.length = Γ.length
  gam : GamOk g Γ
  recs : ∀ k (hk : k < R.length), StR g w0 wr w.heap.size e1 e2 e3 R[k] (Γ[k]'(by omega))
  m2B : ∀ k (hk : k < R.length), w.heap.size ≤ R[k].m2
  sep : ∀ k i (hk : k < R.length) (hi : i < R.length), R[k].m1 ≠ R[i].m2
  sep2 : ∀ k i (hk : k < R.length) (hi : i < R.length), k ≠ i → R[k].m2 ≠ R[i].m2
  tr : ∀ k (hk : k < R.length), ∃ n f, MapF Tryz.prog 9 wr R[k].m2 n f ∧ n ≤ (D k).length ∧ TrOk g Γ k (D k) f
  row : wr.ownsRow w.heap.size 88 1 vS R.length (R.map fun r => .pointer (some ⟨r.p, 0, none⟩))
  qq : wr.heap[q]? = some (.cells #[vS] 231 (0, 0))
  qB : w.heap.size ≤ q
  new : New w wr
section
variable {g : Gram} {w0 w wr wr' : World} {e1 e2 e3 vS : Value} {q : Nat} {R : List Rec} {Γ : List (List Str)} {D D' : Nat → List Str}
theorem GSt.mono (h : GSt g w0 w wr e1 e2 e3 q vS R Γ D) (hn : New wr wr') : GSt g w0 w wr' e1 e2 e3 q vS R Γ D :=
  ⟨h.len, h.gam, fun k hk => (h.recs k hk).new hn, h.m2B, h.sep, h.sep2, fun k hk => by obtain ⟨n, f, h1, h2⟩ := h.tr k hk; exact ⟨n, f, h1.new hn, h2⟩, ownsRow_new h.row hn, hn.heap h.qq, h.qB, h.new.trans hn⟩
/-- A symbol has been tried in vain. -/
theorem GSt.dead (h : GSt g w0 w wr e1 e2 e3 q vS R Γ D) {k : Nat} {γ : List Str} (hγ : Γ[k]? = some γ) {X : Str} (hX : ¬ Live g (γ ++ [X])) (hD : ∀ i, D' i = if i = k then D i ++ [X] else D i) : GSt g w0 w wr e1 e2 e3 q vS R Γ D' := by
  refine ⟨h.len, h.gam, h.recs, h.m2B, h.sep, h.sep2, fun i hi => ?_, h.row, h.qq, h.qB, h.new⟩
  obtain ⟨n, f, h1, h2, h3⟩ := h.tr i hi
  rw [hD]
  by_cases e : i = k
  · subst e
    rw [if_pos rfl]
    exact ⟨n, f, h1, by simp; omega, h3.dead hγ hX⟩
  · rw [if_neg e]; exact ⟨n, f, h1, h2, h3⟩
/-- The way on is written. -/
theorem GSt.put (h : GSt g w0 w wr e1 e2 e3 q vS R Γ D) {k : Nat} (hk : k < R.length) {X : Str} {j : Nat} (he : EdgeC g Γ k X j) {n : Nat} {f : Str → Option Value} (hn : n ≤ (D k).length) (hf : TrOk g Γ k (D k) f)
    (hf' : MapF Tryz.prog 9 wr' R[k].m2 (n + 1) (putF f X (.int .i64 j))) (hb : ∃ es c, wr.heap[R[k].m2]? = some (.map es c)) (hg : wr.grownBy wr' (some R[k].m2)) (hD : ∀ i, D' i = if i = k then D i ++ [X] else D i) : GSt g w0 w wr' e1 e2 e3 q vS R Γ D' := by
  obtain ⟨es, c, hb⟩ := hb
  have hkp : Keep wr wr' (· = R[k].m2) := Keep.map hg hb rfl
  refine ⟨h.len, h.gam, fun i hi => (h.recs i hi).keep hkp (fun e => by have := (h.recs i hi).st.blk; rw [e, hb] at this; cases this) (h.sep i k hi hk), h.m2B, h.sep, h.sep2, fun i hi => ?_, h.row.kept hg (.inr (fun e => by
      rcases h.row.2 with ⟨h1, _⟩ | ⟨g1, c1, cur, h1, _, h2, _⟩
      · rw [h1] at e; simp [Value.ownBlock] at e
      · rw [h1] at e; simp [Value.ownBlock] at e; rw [e, hb] at h2; cases h2)), ?_, h.qB, Below.grown h.new hg h.new.size (fun b e => by injection e with e; rw [← e]; exact h.m2B k hk)⟩
  · by_cases e : i = k
    · subst e
      rw [hD, if_pos rfl]
      exact ⟨n + 1, _, hf', by simp; omega, hf.put he⟩
    · obtain ⟨n', f', h1, h2, h3⟩ := h.tr i hi
      rw [hD, if_neg e]
      exact ⟨n', f', h1.keep hkp (h.sep2 i k hi hk e), h2, h3⟩
  · exact (hg.block q (lt_of_block h.qq) (fun e => by injection e with e; have := h.qq; rw [e, hb] at this; cases this)).trans h.qq
end
end Go.Proofs.YtdejcdmgcckmoaaGreatDoor
namespace Go.Proofs.YtdejcdmgcckmoaaGreatDoor
open Go.RowKit Lr

section
variable {g : Gram} {w0 w wr : World} {e1 e2 e3 vS : Value} {q : Nat} {R : List Rec} {Γ : List (List Str)} {D : Nat → List Str}
theorem rec_cases {P : Rec → List Str → Prop} {r : Rec} {γ' : List Str} (hl : R.length = Γ.length) (h1 : ∀ k (hk : k < R.length), P R[k] (Γ[k]'(by omega))) (h2 : P r γ') : ∀ k (hk : k < (R ++ [r]).length), P (R ++ [r])[k] ((Γ ++ [γ'])[k]'(by simp at *; omega)) := by
  intro k hk
  by_cases hk' : k < R.length
  · rw [List.getElem_append_left hk', List.getElem_append_left (by omega)]
    exact h1 k hk'
  · have e : k = R.length := by simp at hk; omega
    subst e
    have a : (R ++ [r])[R.length]'hk = r := by simp
    have b : (Γ ++ [γ'])[R.length]'(by simp; omega) = γ' := by simp [hl]
    rw [a, b]
    exact h2
theorem rec_one {P : Nat → Rec → Prop} {r : Rec} (h1 : ∀ k (hk : k < R.length), P k R[k]) (h2 : P R.length r) : ∀ k (hk : k < (R ++ [r]).length), P k (R ++ [r])[k] := by
  intro k hk
  by_cases hk' : k < R.length
  · rw [List.getElem_append_left hk']; exact h1 k hk'
  · have e : k = R.length := by simp at hk; omega
    subst e
    have a : (R ++ [r])[R.length]'hk = r := by simp
    rw [a]; exact h2
/-- One more state. -/
theorem GSt.grow (h : GSt g w0 w wr e1 e2 e3 q vS R Γ D) {p' m1' m2' n' : Nat} {no' : Int} {v' : Value} {L' : List (Nat × Itm)} {γ' : List Str} (hs : StAt g w0 wr w.heap.size p' m1' m2' no' v' L' n' e1 e2 e3 γ') (hm2 : w.heap.size ≤ m2') (htr : MapF Tryz.prog 9 wr m2' 0 (fun _ => none))
    (hfr : ∀ k (hk : k < R.length), R[k].p ≠ p' ∧ R[k].m1 ≠ m2' ∧ m1' ≠ R[k].m2 ∧ R[k].m2 ≠ m2') (hgam : GamOk g (Γ ++ [γ'])) {wA : World} {vN : Value} (hown : wA.ownsRow w.heap.size 88 1 vN (R.length + 1) (R.map (fun r => .pointer (some ⟨r.p, 0, none⟩)) ++ [.pointer (some ⟨p', 0, none⟩)]))
    (hg : wr.grownBy wA vS.ownBlock) (hD : D R.length = []) :
    GSt g w0 w ((wA.setCell ⟨q, 0, none⟩ vN).setCell ⟨p', 0, none⟩ (.int .i64 R.length)) e1 e2 e3 q vN (R ++ [⟨p', m1', m2', R.length, v', L', n'⟩]) (Γ ++ [γ']) D := by
  have hqA : wA.heap[q]? = some (.cells #[vS] 231 (0, 0)) := (hg.block q (lt_of_block h.qq) (fun e => ownBlock_ne h.row h.qq (by decide) e.symm)).trans h.qq
  have k12 : ∀ M, Keep wr (wA.setCell ⟨q, 0, none⟩ vN) M := fun M => (Keep.push h.row hg).trans (Keep.set hqA 0 vN)
  have hsB := hs.keep (k12 fun _ => False) (fun h => h) (fun h => h)
  have k3 : Keep (wA.setCell ⟨q, 0, none⟩ vN) ((wA.setCell ⟨q, 0, none⟩ vN).setCell ⟨p', 0, none⟩ (.int .i64 R.length)) (· = p') := Keep.setNo (M := (· = p')) hsB.st.blk rfl 0 _
  have K := (k12 (· = p')).trans k3
  have hqB := set_of_blk hqA 0 vN
  have hqB : (wA.setCell ⟨q, 0, none⟩ vN).heap[q]? = some (.cells #[vN] 231 (0, 0)) := by simpa using hqB
  have hpq : p' ≠ q := fun e => by have := hsB.st.blk; rw [e, hqB] at this; cases this
  have kind : ∀ {m n : Nat} {f : Str → Option Value}, MapF Tryz.prog 9 wr m n f → m ≠ p' := fun hf e => by
    obtain ⟨es, c, hb⟩ := hf.block
    rw [e, hs.st.blk] at hb
    cases hb
  have hlen := h.len
  have hs3 := hsB.st.setNo (R.length : Int)
  refine ⟨by simp [hlen], hgam, ?_, ?_, ?_, ?_, ?_, ?_, ?_, h.qB, ?_⟩
  · refine rec_cases (P := fun r γ => StR g w0 _ w.heap.size e1 e2 e3 r γ) hlen (fun k hk => ?_) ⟨hs3.1, hs.n, hs.nd, hs.all, hs.mne⟩
    obtain ⟨f, hf, _⟩ := (h.recs k hk).st.imap
    exact (h.recs k hk).keep K (hfr k hk).1 (kind hf)
  · exact rec_one (P := fun _ r => w.heap.size ≤ r.m2) h.m2B hm2
  · intro k i hk hi
    exact rec_one (P := fun _ r => ∀ i (hi : i < (R ++ [(⟨p', m1', m2', R.length, v', L', n'⟩ : Rec)]).length), r.m1 ≠ ((R ++ [(⟨p', m1', m2', R.length, v', L', n'⟩ : Rec)])[i]).m2)
      (fun k hk => rec_one (P := fun _ r => R[k].m1 ≠ r.m2) (fun i hi => h.sep k i hk hi) (hfr k hk).2.1)
      (rec_one (P := fun _ r => m1' ≠ r.m2) (fun i hi => (hfr i hi).2.2.1) hs.mne) k hk i hi
  · intro k i hk hi
    exact rec_one (P := fun k r => ∀ i (hi : i < (R ++ [(⟨p', m1', m2', R.length, v', L', n'⟩ : Rec)]).length), k ≠ i → r.m2 ≠ ((R ++ [(⟨p', m1', m2', R.length, v', L', n'⟩ : Rec)])[i]).m2)
      (fun k hk => rec_one (P := fun i r => k ≠ i → R[k].m2 ≠ r.m2) (fun i hi => h.sep2 k i hk hi) (fun _ => (hfr k hk).2.2.2))
      (rec_one (P := fun i r => R.length ≠ i → m2' ≠ r.m2) (fun i hi _ => (hfr i hi).2.2.2.symm) (fun h => absurd rfl h)) k hk i hi
  · refine rec_one (P := fun k r => ∃ n f, MapF Tryz.prog 9 _ r.m2 n f ∧ n ≤ (D k).length ∧ TrOk g (Γ ++ [γ']) k (D k) f) (fun k hk => ?_) ?_
    · obtain ⟨n, f, h1, h2, h3⟩ := h.tr k hk
      exact ⟨n, f, h1.keep K (kind h1), h2, h3.ext (by omega) _⟩
    · refine ⟨0, _, htr.keep K (kind htr), Nat.zero_le _, fun γ _ => ⟨fun X hX => ?_, fun X hX => absurd rfl hX⟩⟩
      rw [hD] at hX; cases hX
  · have h1 := ownsRow_setCell_other hown (a := ⟨q, 0, none⟩) (ownBlock_ne hown hqA (by decide)) vN
    have h2 := ownsRow_setCell_other h1 (a := ⟨p', 0, none⟩) (ownBlock_ne h1 hsB.st.blk (by decide)) (.int .i64 R.length)
    rw [List.length_append, List.map_append]
    exact h2
  · exact blk_setOther hqB hpq _
  · exact ((Below.grown h.new hg h.new.size (fun b e => (h.row.lt b e).1)).setCell (p := ⟨q, 0, none⟩) h.qB _).setCell (p := ⟨p', 0, none⟩) hs.st.pB _
end
end Go.Proofs.YtdejcdmgcckmoaaGreatDoor
namespace Go.Proofs.YtdejcdmgcckmoaaGreatDoor
open Go.RowKit Lr

/-- The symbols that the package goes through. -/
abbrev symsG (g : Gram) : List Str := typesA (augP g) [invalidS, eofS]
theorem addTo_nodup {l : List Str} (h : l.Nodup) (s : Str) : (addTo l s).Nodup := by
  unfold addTo
  split
  · exact h
  · rename_i hh
    rw [List.nodup_append]
    refine ⟨h, by simp, ?_⟩
    intro a ha b hb e
    simp at hb
    subst hb; subst e
    exact absurd ha (has_false.1 (by simpa using hh))
theorem bodyA_nodup (l : List Sy) : ∀ {t : List Str}, t.Nodup → (l.foldl (fun t s => addTo t s.str) t).Nodup := by
  induction l with
  | nil => intro t h; exact h
  | cons s l ih => intro t h; exact ih (addTo_nodup h _)
theorem typesA_nodup (L : List AP) : ∀ {t : List Str}, t.Nodup → (typesA L t).Nodup := by
  induction L with
  | nil => intro t h; exact h
  | cons p L ih => intro t h; exact ih (bodyA_nodup _ (addTo_nodup h _))
theorem symsG_nodup (g : Gram) : (symsG g).Nodup := typesA_nodup _ (by decide)
theorem symsG_all {g : Gram} {X : Str} (h : SymIn g X) : X ∈ symsG g := by
  rw [mem_typesA]
  right
  rcases h with rfl | ⟨p, hp, h⟩
  · exact ⟨(startS, [.nt (Lr.start g)]), List.mem_cons_self .., .inr ⟨_, List.mem_cons_self .., rfl⟩⟩
  · refine ⟨(p.1, bodyS g p.2), List.mem_cons_of_mem _ (List.mem_map.2 ⟨p, hp, rfl⟩), .inr ⟨symOf g X, ?_, (symOf_str g X).symm⟩⟩
    show symOf g X ∈ bodyS g p.2
    rw [bodyS_eq, if_neg (by intro e; rw [e] at h; cases h)]
    exact List.mem_map.2 ⟨X, h, rfl⟩

theorem SymList_any {w : World} {B p m1 m2 m3 : Nat} {r2 r4 r5 : Value} {tm nt nk : List Str} {n : Nat} (st : SymSt w B p m1 m2 m3 r2 r4 r5 tm nt nk n) :
    Calls Tryz.prog 150 #[.pointer (some ⟨p, 0, none⟩)] w fun e w' => e = .returned r5 ∧ w = w' := by
  have c5 := cell_of_blk st.blk 5
  simp only [List.getElem?_toArray, List.getElem?_cons_zero, List.getElem?_cons_succ] at c5
  obtain ⟨a, c, rfl⟩ := owns_slice st.tmr
  clear st
  go_enter Tryz.func150, Tryz.ntmps150
  go_wp2
  go_ret
  exact ⟨rfl, rfl⟩

/-! ### The rows, one symbol after another -/
theorem row_step {g : Gram} {γ : List Str} {syms : List Str} {Γ : List (List Str)} {s : Nat} (hs : s < syms.length) : rowC g γ (syms.take (s + 1)) Γ = stepC g γ (rowC g γ (syms.take s) Γ) syms[s] := by
  unfold rowC
  rw [List.take_succ_eq_append_getElem hs, List.foldl_append]
  rfl
theorem coll_step {g : Gram} {syms : List Str} {n : Nat} {γ : List Str} (h : (collC g syms n)[n]? = some γ) : collC g syms (n + 1) = rowC g γ syms (collC g syms n) := by
  rw [collC, h]
theorem step_dead {g : Gram} {γ : List Str} {Γ : List (List Str)} {X : Str} (h : ¬ Live g (γ ++ [X])) : stepC g γ Γ X = Γ := by
  unfold stepC; rw [if_neg (fun e => h e.1)]
theorem step_old {g : Gram} {γ : List Str} {Γ : List (List Str)} {X : Str} (h : ∃ γ' ∈ Γ, Same g γ' (γ ++ [X])) : stepC g γ Γ X = Γ := by
  unfold stepC; rw [if_neg (fun e => e.2 h)]
theorem step_new {g : Gram} {γ : List Str} {Γ : List (List Str)} {X : Str} (hl : Live g (γ ++ [X])) (h : ¬ ∃ γ' ∈ Γ, Same g γ' (γ ++ [X])) : stepC g γ Γ X = Γ ++ [γ ++ [X]] := by
  unfold stepC; rw [if_pos ⟨hl, h⟩]
/-- A state's set is empty if nothing lives there. -/
theorem state_live {g : Gram} {w0 w : World} {B p m1 m2 : Nat} {no : Int} {v e1 e2 e3 : Value} {L : List (Nat × Itm)} {n : Nat} {γ : List Str} (h : StAt g w0 w B p m1 m2 no v L n e1 e2 e3 γ) : Live g γ ↔ 0 < L.length := by
  constructor
  · rintro ⟨i, hi⟩
    have := List.length_pos_of_mem ((h.all i).2 hi)
    simpa using this
  · intro h0
    exact ⟨L[0].2, h.vld _ (List.getElem_mem h0)⟩
end Go.Proofs.YtdejcdmgcckmoaaGreatDoor

/- The law of what stands at a conflict. -/
import Derived.Test.YtdejcdmgcckmoaaGreatDoorYQR
namespace Go.Proofs.YtdejcdmgcckmoaaGreatDoor
open Go.RowKit Go.Sort Lr

set_option maxRecDepth 20000 in
set_option maxHeartbeats 4000000 in
theorem FnResolved_any (v : Value) (g : Gram) (w : World) (h : GramAt w v g) (hf : Fits g) (htab : TabW w) :
    Calls Tryz.prog 9 #[v] w fun e w' => e = .returned (.bool true) ∧ New w w' := by
  obtain ⟨a, cap, rfl⟩ := h.slice
  have HG := Lib.hid (And.intro h (And.intro hf htab))
  clear h hf htab
  go_enter Tryz.func9, Tryz.ntmps9
  go_wp2_with fail
  refine (zzFits1_any _ g w HG.out.1 HG.out.2.1).mono ?_
  rintro e w1 ⟨b1, rfl, hn1⟩
  cases b1 with
  | false =>
    go_wp2
    go_ret
    exact ⟨rfl, hn1⟩
  | true =>
    have hqs := Lib.hid (small_any _ g w1 (HG.out.1.new hn1) HG.out.2.1)
    go_wp2_with fail
    refine hqs.out.mono ?_
    rintro e w2 ⟨b2, rfl, hok, hn2⟩
    cases b2 with
    | false =>
      clear hok
      go_wp2
      go_ret
      exact ⟨rfl, hn1.trans hn2⟩
    | true =>
      have HOK := Lib.hid (hok rfl)
      have hnw2 := hn1.trans hn2
      clear hok hqs
      have hqp := Lib.hid (Stops_any HOK.out.1 HOK.out.2 _ w2 (HG.out.1.new hnw2))
      have HN2 := Lib.hid hnw2
      clear hnw2 hn1 hn2
      go_wp2_with fail
      refine hqp.out.mono ?_
      rintro e w3 ⟨b3, rfl, hst, hn3⟩
      cases b3 with
      | true =>
        clear hst
        go_wp2
        go_ret
        exact ⟨rfl, HN2.out.trans hn3⟩
      | false =>
        have HST := Lib.hid (hst rfl)
        have hnw3 := HN2.out.trans hn3
        clear hst hqp
        have hq := Lib.hid (States_any HOK.out.1 HOK.out.2 _ w3 (HG.out.1.new hnw3))
        have HN3 := Lib.hid hnw3
        clear hnw3 hn3
        go_wp2_with fail
        refine hq.out.mono ?_
        rintro e w4 ⟨vL, vE, c, A, E, rfl, hd, hT, hM, hE, ho, _, hn4⟩
        have hnw4 := HN3.out.trans hn4
        have hq2 := Lib.hid (Table_any HOK.out.1 HOK.out.2 HST.out _ w4 (HG.out.1.new hnw4) (HG.out.2.2.new hnw4))
        have H4 := Lib.hid (And.intro hd (And.intro hT (And.intro hM (And.intro hE (And.intro ho hnw4)))))
        obtain ⟨aL, cL, rfl⟩ := hM.slice
        obtain ⟨aE, cE, rfl⟩ := hE.slice
        clear hd hT hM hE ho hn4 hnw4 hq
        go_wp2_with fail
        refine hq2.out.mono ?_
        rintro e w5 ⟨vA, vG, vC, c', Ls, Eg, C, rfl, hd', hTab, hn5⟩
        have hLS : LawS g (collC g (symsG g) c) w5 (.slice aL A.length cL) (.slice aE E.length cE) vA vG vC A Ls E Eg C := by
          obtain ⟨hd, hT, hM, hE, ho, _⟩ := H4.out
          rw [hd'.eq hd] at hTab
          have hN : (collC g (symsG g) c).length ≤ 120 := HOK.out.2.le hT.full.toGamOk
          exact ⟨hT, hM.new hn5, hE.new hn5, ho, hTab, tab_ok HOK.out.1.toSm HST.out hT hTab.len hTab.its, by rw [hT.len]; exact hN, edges_len HOK.out.1.toSm hT hN⟩
        have HLS := Lib.hid (And.intro hLS (H4.out.2.2.2.2.2.trans hn5))
        obtain ⟨aC, cC, eC⟩ := hLS.tab.cls.slice
        obtain ⟨aA, cA, eA⟩ := hLS.tab.act.slice
        obtain ⟨aG, cG, eG⟩ := hLS.tab.edg.slice
        subst eC; subst eA; subst eG
        have hAl := hLS.la
        have hA0 : 0 < A.length := by
          rw [hLS.told.len]; exact (List.getElem?_eq_some_iff.1 hLS.told.full.zero).1
        have hA0b : ((A.length : Int) == 0) = false := beq_eq_false_iff_ne.2 (by omega)
        have hAcl : Hid ((actsF (stF g (collC g (symsG g) c) Ls) (trmF g) (collC g (symsG g) c).length).length ≤ 10000) := Lib.hid (by
          have h2 := actsF_len (stF g (collC g (symsG g) c) Ls) (trmF g) (collC g (symsG g) c).length
          have h3 := trm_len HOK.out.1.toSm hLS.tab.trm
          have h4 : (collC g (symsG g) c).length ≤ 120 := by rw [← hLS.told.len]; exact hAl
          have h5 := Nat.mul_le_mul h3 h4
          omega)
        clear hLS hTab hd' hn5 hq2
        go_wp2_with fail
        go_loopg [51] A.length (fun gk u51 wr => ∃ k : Nat, k ≤ A.length ∧ gk = A.length - k ∧ u51 = .int .i64 k ∧ Hid (New w5 wr))
        case atStart => exact ⟨0, Nat.zero_le _, rfl, rfl, Lib.hid (New.refl w5)⟩
        case round =>
          obtain ⟨k, hk, rfl, rfl, hn⟩ := hrel
          by_cases hlt : k < A.length
          · obtain ⟨b, o, a', c9, e, h1, h2⟩ := (HLS.out.1.mat.new hn.out).elem hlt
            cases e
            have hkΓ : k < (collC g (symsG g) c).length := by rw [← HLS.out.1.told.len]; exact hlt
            have hv : ∀ x ∈ A[k], Vld g (collC g (symsG g) c)[k] x := fun x hx => (HLS.out.1.told.items k _ _ (List.getElem?_eq_getElem hkΓ) (List.getElem?_eq_getElem hlt) x).1 hx
            have hll := items_le2 HOK.out.1.toSm (HLS.out.1.ord _ (List.getElem_mem hlt)) hv
            have hLa : A[k]? = some A[k] := List.getElem?_eq_getElem hlt
            have HV := Lib.hid (And.intro hv (And.intro hLa h2))
            clear hv hLa h2
            have hqL := Lib.hid (Looks_any _ g wr (HG.out.1.new (HLS.out.2.trans hn.out)) HOK.out.1.toSm)
            have HN := Lib.hid hn.out
            clear hn
            go_wp2_with (go_at_call 34; refine hqL.out.mono ?_; rintro e w6 ⟨vK, rfl, hK6, hn6⟩; obtain ⟨aK, cK, eK⟩ := owns_slice hK6; subst eK)
            have H6 := Lib.hid (And.intro hK6.at (And.intro (HN.out.trans hn6) (HV.out.2.2.new hn6)))
            clear hK6 hn6 hqL
            go_loopg [59] (looksF g).length (fun gj u59 wq => ∃ j : Nat, j ≤ (looksF g).length ∧ gj = (looksF g).length - j ∧ u59 = .int .i64 j ∧ Hid (New w6 wq))
            case atStart => exact ⟨0, Nat.zero_le _, rfl, rfl, Lib.hid (New.refl w6)⟩
            case round =>
              obtain ⟨j, hj, rfl, rfl, hn⟩ := hrel
              by_cases hjl : j < (looksF g).length
              · obtain ⟨b2, o2, e, h4⟩ := (H6.out.1.new hn.out).elem hjl
                cases e
                have hsL := List.getElem_mem hjl
                have hs0 := looks_ne HOK.out.1.toSm hsL
                have hll2 := looks_len HOK.out.1.toSm
                have hhit := fun h2 => resolved_law HLS.out.1.tab.trm (termsOk HOK.out.1.toSm) HLS.out.1.ok HV.out.2.1 hsL h2
                have hnA := hn.out
                have hq := Lib.hid (Said_any HOK.out.1 HV.out.1 (by omega) (E := E) (by have := HLS.out.1.le; omega) _ _ _ k (looksF g)[j] hs0 wr (HG.out.1.new ((HLS.out.2.trans H6.out.2.1).trans hnA)) (H6.out.2.2.new hnA) (HLS.out.1.edg.new (H6.out.2.1.trans hnA)))
                have hac := acsOf_len k (looksF g)[j] (saidF g A[k] E k (looksF g)[j])
                have hSl := saidF_len g A[k] E k (looksF g)[j]
                have HHIT := Lib.hid hhit
                have HSL := Lib.hid (And.intro hSl HLS.out.1.le)
                have HNA := Lib.hid (And.intro hnA hAcl.out)
                clear hhit hnA hn hsL hSl
                generalize (looksF g)[j] = s at *
                generalize saidF g A[k] E k s = S at *
                by_cases hS : 2 ≤ S.length
                · have hz : ¬ ((S.length : Int) < 2) := by omega
                  have hzb : decide ((S.length : Int) < 2) = false := decide_eq_false hz
                  have hmem := HHIT.out (fun e => by rw [e] at hS; simp at hS)
                  have HM := Lib.hid hmem
                  clear hmem
                  go_wp2_with (first | (go_at_call 35; refine hq.out.mono ?_; rintro e w7 ⟨vS, rfl, hS7, hn7⟩; have hqr := Lib.hid (Resolved_any hS7 (by omega) (by have := HSL.out.1; have := HSL.out.2; omega)); obtain ⟨aS, cS, eS⟩ := hS7.slice; subst eS; rw [hac] at hqr ⊢; have HN8 := Lib.hid (HNA.out.1.trans hn7); clear hS7 hn7) | (go_at_call 39; refine hqr.out.mono ?_; rintro e w8 ⟨rfl, hn8⟩; have hqc := Lib.hid (Contains_ac (HLS.out.1.tab.act.new ac4_len (H6.out.2.1.trans (HN8.out.trans hn8))) (by have := HNA.out.2; omega) (k, s, (resolvedF S).1, (resolvedF S).2)); rw [decide_eq_true HM.out] at hqc; have HN9 := Lib.hid (HN8.out.trans hn8); clear hn8) | (go_at_call 38; refine hqc.out.mono ?_; rintro e w9 ⟨rfl, hn9⟩))
                  go_roundg ((looksF g).length - (j + 1))
                  case measure => omega
                  case rel => exact ⟨j + 1, by omega, rfl, by go_num, Lib.hid (HN9.out.trans hn9)⟩
                · have hz : (S.length : Int) < 2 := by omega
                  have hzb : decide ((S.length : Int) < 2) = true := decide_eq_true hz
                  go_wp2_with (first | (go_at_call 35; refine hq.out.mono ?_; rintro e w7 ⟨vS, rfl, hS7, hn7⟩; obtain ⟨aS, cS, eS⟩ := hS7.slice; subst eS; rw [hac]; have HN8 := Lib.hid (HNA.out.1.trans hn7); clear hS7 hn7))
                  go_roundg ((looksF g).length - (j + 1))
                  case measure => omega
                  case rel => exact ⟨j + 1, by omega, rfl, by go_num, HN8⟩
              · have HN2 := Lib.hid (H6.out.2.1.trans hn.out)
                clear hn
                go_wp2
                go_roundg (A.length - (k + 1))
                case measure => omega
                case rel => exact ⟨k + 1, by omega, rfl, by go_num, HN2⟩
          · have HN := Lib.hid (HLS.out.2.trans hn.out)
            clear hn
            go_wp2
            go_ret
            exact ⟨rfl, HN.out⟩
end Go.Proofs.YtdejcdmgcckmoaaGreatDoor

/- The law of the conflicts. -/
import Derived.Test.YtdejcdmgcckmoaaGreatDoorYNN
namespace Go.Proofs.YtdejcdmgcckmoaaGreatDoor
open Go.RowKit Go.Sort Lr

theorem clash_hit {g : Gram} {Γ : List (List Str)} {w : World} {vL vE vA vG vC : Value} {A Ls : List (List Itm)} {E Eg : List Edg} {C : List Cl} (hm : Sm g) (h : LawS g Γ w vL vE vA vG vC A Ls E Eg C) {i : Nat} {l : List Itm} (hl : A[i]? = some l) {s : Str} (hs : s ∈ looksF g) (h2 : 2 ≤ (saidF g l E i s).length) : (C.any fun x => decide (x.1 = i) && decide (x.2.1 = s)) = true := by
  have h1 := (clashes_law h.tab.trm (termsOk hm) h.ok).1 i l s hl hs h2
  rw [← h.tab.clss] at h1
  obtain ⟨x, hx, e⟩ := List.mem_map.1 h1
  rw [List.any_eq_true]
  simp only [Prod.mk.injEq] at e
  exact ⟨x, hx, by simp [e.1, e.2]⟩
theorem clash_len {g : Gram} {Γ : List (List Str)} {w : World} {vL vE vA vG vC : Value} {A Ls : List (List Itm)} {E Eg : List Edg} {C : List Cl} (hm : Sm g) (h : LawS g Γ w vL vE vA vG vC A Ls E Eg C) : cntTo (fun i => (looksF g).countP fun s => clashB g (A.getD i []) E i s) A.length = C.length := by
  rw [h.told.len, (clashes_law h.tab.trm (termsOk hm) h.ok).2, ← h.tab.clss, List.length_map]
set_option maxRecDepth 20000 in
set_option maxHeartbeats 4000000 in
theorem FnClashes_any (v : Value) (g : Gram) (w : World) (h : GramAt w v g) (hf : Fits g) (htab : TabW w) :
    Calls Tryz.prog 8 #[v] w fun e w' => e = .returned (.bool true) ∧ New w w' := by
  obtain ⟨a, cap, rfl⟩ := h.slice
  have HG := Lib.hid (And.intro h (And.intro hf htab))
  clear h hf htab
  go_enter Tryz.func8, Tryz.ntmps8
  go_wp2_with fail
  refine (zzFits1_any _ g w HG.out.1 HG.out.2.1).mono ?_
  rintro e w1 ⟨b1, rfl, hn1⟩
  cases b1 with
  | false =>
    go_wp2
    go_ret
    exact ⟨rfl, hn1⟩
  | true =>
    have hqs := Lib.hid (small_any _ g w1 (HG.out.1.new hn1) HG.out.2.1)
    go_wp2_with fail
    refine hqs.out.mono ?_
    rintro e w2 ⟨b2, rfl, hok, hn2⟩
    cases b2 with
    | false =>
      clear hok
      go_wp2
      go_ret
      exact ⟨rfl, hn1.trans hn2⟩
    | true =>
      have HOK := Lib.hid (hok rfl)
      have hnw2 := hn1.trans hn2
      clear hok hqs
      have hqp := Lib.hid (Stops_any HOK.out.1 HOK.out.2 _ w2 (HG.out.1.new hnw2))
      have HN2 := Lib.hid hnw2
      clear hnw2 hn1 hn2
      go_wp2_with fail
      refine hqp.out.mono ?_
      rintro e w3 ⟨b3, rfl, hst, hn3⟩
      cases b3 with
      | true =>
        clear hst
        go_wp2
        go_ret
        exact ⟨rfl, HN2.out.trans hn3⟩
      | false =>
        have HST := Lib.hid (hst rfl)
        have hnw3 := HN2.out.trans hn3
        clear hst hqp
        have hq := Lib.hid (States_any HOK.out.1 HOK.out.2 _ w3 (HG.out.1.new hnw3))
        have HN3 := Lib.hid hnw3
        clear hnw3 hn3
        go_wp2_with fail
        refine hq.out.mono ?_
        rintro e w4 ⟨vL, vE, c, A, E, rfl, hd, hT, hM, hE, ho, _, hn4⟩
        have hnw4 := HN3.out.trans hn4
        have hq2 := Lib.hid (Table_any HOK.out.1 HOK.out.2 HST.out _ w4 (HG.out.1.new hnw4) (HG.out.2.2.new hnw4))
        have H4 := Lib.hid (And.intro hd (And.intro hT (And.intro hM (And.intro hE (And.intro ho hnw4)))))
        obtain ⟨aL, cL, rfl⟩ := hM.slice
        obtain ⟨aE, cE, rfl⟩ := hE.slice
        clear hd hT hM hE ho hn4 hnw4 hq
        go_wp2_with fail
        refine hq2.out.mono ?_
        rintro e w5 ⟨vA, vG, vC, c', Ls, Eg, C, rfl, hd', hTab, hn5⟩
        have hLS : LawS g (collC g (symsG g) c) w5 (.slice aL A.length cL) (.slice aE E.length cE) vA vG vC A Ls E Eg C := by
          obtain ⟨hd, hT, hM, hE, ho, _⟩ := H4.out
          rw [hd'.eq hd] at hTab
          have hN : (collC g (symsG g) c).length ≤ 120 := HOK.out.2.le hT.full.toGamOk
          exact ⟨hT, hM.new hn5, hE.new hn5, ho, hTab, tab_ok HOK.out.1.toSm HST.out hT hTab.len hTab.its, by rw [hT.len]; exact hN, edges_len HOK.out.1.toSm hT hN⟩
        have HLS := Lib.hid (And.intro hLS (H4.out.2.2.2.2.2.trans hn5))
        obtain ⟨aC, cC, eC⟩ := hLS.tab.cls.slice
        obtain ⟨aA, cA, eA⟩ := hLS.tab.act.slice
        obtain ⟨aG, cG, eG⟩ := hLS.tab.edg.slice
        subst eC; subst eA; subst eG
        have hAl := hLS.la
        have hA0 : 0 < A.length := by
          rw [hLS.told.len]; exact (List.getElem?_eq_some_iff.1 hLS.told.full.zero).1
        have hA0b : ((A.length : Int) == 0) = false := beq_eq_false_iff_ne.2 (by omega)
        have hCl : Hid (C.length ≤ 10000) := Lib.hid (by
          have h1 := congrArg List.length hLS.tab.clss
          rw [List.length_map] at h1
          have h2 := clsF_len (stF g (collC g (symsG g) c) Ls) (trmF g) (collC g (symsG g) c).length
          have h3 := trm_len HOK.out.1.toSm hLS.tab.trm
          have h4 : (collC g (symsG g) c).length ≤ 120 := by rw [← hLS.told.len]; exact hAl
          have h5 := Nat.mul_le_mul h3 h4
          omega)
        clear hLS hTab hd' hn5 hq2
        go_wp2_with fail
        go_loopg [10, 51] A.length (fun gk u10 u51 wr => ∃ k : Nat, k ≤ A.length ∧ gk = A.length - k ∧ u51 = .int .i64 k ∧ u10 = .int .i64 (cntTo (fun i => (looksF g).countP fun s => clashB g (A.getD i []) E i s) k : Int) ∧ Hid (New w5 wr))
        case atStart => exact ⟨0, Nat.zero_le _, rfl, rfl, rfl, Lib.hid (New.refl w5)⟩
        case round =>
          obtain ⟨k, hk, rfl, rfl, rfl, hn⟩ := hrel
          by_cases hlt : k < A.length
          · obtain ⟨b, o, a', c9, e, h1, h2⟩ := (HLS.out.1.mat.new hn.out).elem hlt
            cases e
            have hkΓ : k < (collC g (symsG g) c).length := by rw [← HLS.out.1.told.len]; exact hlt
            have hv : ∀ x ∈ A[k], Vld g (collC g (symsG g) c)[k] x := fun x hx => (HLS.out.1.told.items k _ _ (List.getElem?_eq_getElem hkΓ) (List.getElem?_eq_getElem hlt) x).1 hx
            have hll := items_le2 HOK.out.1.toSm (HLS.out.1.ord _ (List.getElem_mem hlt)) hv
            have hLa : A[k]? = some A[k] := List.getElem?_eq_getElem hlt
            have HV := Lib.hid (And.intro hv (And.intro hLa h2))
            have hfk : (looksF g).countP (fun s => clashB g (A.getD k []) E k s) = (looksF g).countP (clashB g A[k] E k) := by rw [List.getD, hLa]; rfl
            have hsucc : cntTo (fun i => (looksF g).countP fun s => clashB g (A.getD i []) E i s) (k + 1) = cntTo (fun i => (looksF g).countP fun s => clashB g (A.getD i []) E i s) k + (looksF g).countP (clashB g A[k] E k) := by rw [← hfk]; rfl
            have hc49 := cntTo_le (f := fun i => (looksF g).countP fun s => clashB g (A.getD i []) E i s) (c := 49) (fun i => Nat.le_trans List.countP_le_length (looks_len HOK.out.1.toSm)) k
            have HSU := Lib.hid hsucc
            clear hfk hsucc hv hLa h2
            generalize hc0 : cntTo (fun i => (looksF g).countP fun s => clashB g (A.getD i []) E i s) k = c0 at *
            clear hc0
            have hc0b : c0 ≤ 49 * 120 := Nat.le_trans hc49 (Nat.mul_le_mul_left _ (by omega))
            have hqL := Lib.hid (Looks_any _ g (wr.alloc (.cells #[.int .i64 (k : Int)] 3)) (HG.out.1.new ((HLS.out.2.trans hn.out).trans ((New.refl wr).alloc _))) HOK.out.1.toSm)
            have k1 : (wr.alloc (.cells #[.int .i64 (k : Int)] 3)).cell? ⟨wr.heap.size, 0, none⟩ = some (.int .i64 (k : Int)) := by simp
            have K1 := Lib.hid (And.intro k1 (hn.out.trans ((New.refl wr).alloc (.cells #[.int .i64 (k : Int)] 3))))
            clear k1 hn hc49
            go_wp2_with (go_at_call 34; refine hqL.out.mono ?_; rintro e w6 ⟨vK, rfl, hK6, hn6⟩; obtain ⟨aK, cK, eK⟩ := owns_slice hK6; subst eK)
            have H6 := Lib.hid (And.intro hK6.at (And.intro (hn6.cell K1.out.1) (And.intro (K1.out.2.trans hn6) ((HV.out.2.2.new ((New.refl wr).alloc (.cells #[.int .i64 (k : Int)] 3))).new hn6))))
            clear hK6 hn6 hqL
            generalize wr.heap.size = q1 at *
            go_loopg [10, 59] (looksF g).length (fun gj u10 u59 wq => ∃ j : Nat, j ≤ (looksF g).length ∧ gj = (looksF g).length - j ∧ u59 = .int .i64 j ∧ u10 = .int .i64 ((c0 + ((looksF g).take j).countP (clashB g A[k] E k) : Nat) : Int) ∧ Hid (New w6 wq))
            case atStart => exact ⟨0, Nat.zero_le _, rfl, rfl, by simp, Lib.hid (New.refl w6)⟩
            case round =>
              obtain ⟨j, hj, rfl, rfl, rfl, hn⟩ := hrel
              by_cases hjl : j < (looksF g).length
              · obtain ⟨b2, o2, e, h4⟩ := (H6.out.1.new hn.out).elem hjl
                cases e
                have hsL := List.getElem_mem hjl
                have hs0 := looks_ne HOK.out.1.toSm hsL
                have hct := countP_take (p := clashB g A[k] E k) hjl
                have hcl := List.countP_le_length (p := clashB g A[k] E k) (l := (looksF g).take j)
                rw [List.length_take] at hcl
                have hll2 := looks_len HOK.out.1.toSm
                have hhit := fun h2 => clash_hit HOK.out.1.toSm HLS.out.1 HV.out.2.1 hsL h2
                have hnA := hn.out.trans ((New.refl wr).alloc (.cells #[sv (looksF g)[j]] 9))
                have hq := Lib.hid (Said_any HOK.out.1 HV.out.1 (by omega) (E := E) (by have := HLS.out.1.le; omega) _ _ _ k (looksF g)[j] hs0 (wr.alloc (.cells #[sv (looksF g)[j]] 9)) (HG.out.1.new ((HLS.out.2.trans H6.out.2.2.1).trans hnA)) (H6.out.2.2.2.new hnA) (HLS.out.1.edg.new (H6.out.2.2.1.trans hnA)))
                have d1 := hnA.cell H6.out.2.1
                have d2 : (wr.alloc (.cells #[sv (looksF g)[j]] 9)).cell? ⟨wr.heap.size, 0, none⟩ = some (sv (looksF g)[j]) := by simp
                have hac := acsOf_len k (looksF g)[j] (saidF g A[k] E k (looksF g)[j])
                have hcb : clashB g A[k] E k (looksF g)[j] = decide (2 ≤ (saidF g A[k] E k (looksF g)[j]).length) := rfl
                rw [hcb] at hct
                have HCT := Lib.hid hct
                have HHIT := Lib.hid hhit
                have HNA := Lib.hid (And.intro hnA hCl.out)
                clear hct hhit hnA hcb hn hsL
                generalize (looksF g)[j] = s at *
                generalize saidF g A[k] E k s = S at *
                generalize List.countP (clashB g A[k] E k) ((looksF g).take j) = cj at *
                generalize hck : List.countP (clashB g A[k] E k) ((looksF g).take (j + 1)) = cj1 at *
                by_cases hS : 2 ≤ S.length
                · have hz : ¬ ((S.length : Int) < 2) := by omega
                  have hzb : decide ((S.length : Int) < 2) = false := decide_eq_false hz
                  have hcj : cj1 = cj + 1 := by have := HCT.out; rw [if_pos (by simpa using hS)] at this; exact this
                  have hany := HHIT.out hS
                  have HAN := Lib.hid hany
                  have kw : IntKind.i64.wrap ((c0 + cj : Nat) + 1 : Int) = ((c0 + (cj + 1) : Nat) : Int) := by rw [IntKind.wrap_i64]; omega
                  clear hany
                  go_wp2_with (first | (go_at_call 35; refine hq.out.mono ?_; rintro e w7 ⟨vS, rfl, hS7, hn7⟩; obtain ⟨aS, cS, eS⟩ := hS7.slice; subst eS; rw [hac]; have d1 := hn7.cell d1; have d2 := hn7.cell d2; have hn8 := HNA.out.1.trans hn7; have HN8 := Lib.hid hn8; have hqc := Lib.hid (ContainsFunc_cl (.slice aC C.length cC) C w7 (HLS.out.1.tab.cls.new cl4_len (H6.out.2.2.1.trans HN8.out)) (by have := HNA.out.2; omega) 37 #[.pointer (some ⟨q1, 0, none⟩), .pointer (some ⟨wr.heap.size, 0, none⟩)] (fun x => decide (x.1 = k) && decide (x.2.1 = s)) enters37 (fun x w' hw => isCl_any k s _ _ x w' (hw.cell d1) (hw.cell d2))); rw [HAN.out] at hqc; clear hn8 hS7 hn7) | (go_at_call 36; refine hqc.out.mono ?_; rintro e w9 ⟨rfl, hn9⟩))
                  go_roundg ((looksF g).length - (j + 1))
                  case measure => omega
                  case rel => exact ⟨j + 1, by omega, rfl, by go_num, by rw [hck, hcj]; go_num, Lib.hid (HN8.out.trans hn9)⟩
                · have hz : (S.length : Int) < 2 := by omega
                  have hzb : decide ((S.length : Int) < 2) = true := decide_eq_true hz
                  have hcj : cj1 = cj := by have := HCT.out; rw [if_neg (by simpa using hS)] at this; exact this
                  go_wp2_with (first | (go_at_call 35; refine hq.out.mono ?_; rintro e w7 ⟨vS, rfl, hS7, hn7⟩; obtain ⟨aS, cS, eS⟩ := hS7.slice; subst eS; rw [hac]; have hn8 := HNA.out.1.trans hn7; have HN8 := Lib.hid hn8; clear hn8 hS7 hn7))
                  go_roundg ((looksF g).length - (j + 1))
                  case measure => omega
                  case rel => exact ⟨j + 1, by omega, rfl, by go_num, by rw [hck, hcj]; go_num, HN8⟩
              · have e : (looksF g).take j = looksF g := List.take_of_length_le (by omega)
                rw [e, ← HSU.out]
                have HN := Lib.hid (H6.out.2.2.1.trans hn.out)
                clear hn e
                go_wp2
                go_roundg (A.length - (k + 1))
                case measure => omega
                case rel => exact ⟨k + 1, by omega, rfl, by go_num, rfl, HN⟩
          · obtain rfl : k = A.length := by omega
            rw [clash_len HOK.out.1.toSm HLS.out.1]
            have HN := Lib.hid (HLS.out.2.trans hn.out)
            clear hn
            go_wp2
            go_ret
            exact ⟨by simp, HN.out⟩
end Go.Proofs.YtdejcdmgcckmoaaGreatDoor

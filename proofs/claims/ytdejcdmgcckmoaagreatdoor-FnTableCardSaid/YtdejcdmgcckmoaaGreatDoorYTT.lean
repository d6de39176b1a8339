/- The law of the table. -/
import Derived.Test.YtdejcdmgcckmoaaGreatDoorYQR
namespace Go.Proofs.YtdejcdmgcckmoaaGreatDoor
open Go.RowKit Go.Sort Lr

theorem lastA_take {i : Nat} {s : Str} {l : List Ac} {m : Nat} (h : m < l.length) : lastA i s (l.take (m + 1)) = if hitA i s l[m] then l[m] else lastA i s (l.take m) := by
  unfold lastA
  rw [List.take_succ_eq_append_getElem h, List.foldl_append]; rfl
set_option maxRecDepth 20000 in
set_option maxHeartbeats 8000000 in
theorem FnTable_any (v : Value) (g : Gram) (w : World) (h : GramAt w v g) (hf : Fits g) (htab : TabW w) :
    Calls Tryz.prog 10 #[v] w fun e w' => e = .returned (.bool true) ∧ New w w' := by
  obtain ⟨a, cap, rfl⟩ := h.slice
  have HG := Lib.hid (And.intro h (And.intro hf htab))
  clear h hf htab
  go_enter Tryz.func10, Tryz.ntmps10
  go_wp2_with fail
  refine (zzFits1_any _ g w HG.out.1 HG.out.2.1).mono ?_
  rintro e w1 ⟨b1, rfl, hn1⟩
  cases b1 with
  | false =>
    go_wp2
    go_ret
    exact ⟨rfl, hn1⟩
  | true =>
    have hqs := Lib.hid (small_any _ g w1 (HG.out.1.new hn1) HG.out.2.1)
    go_wp2_with fail
    refine hqs.out.mono ?_
    rintro e w2 ⟨b2, rfl, hok, hn2⟩
    cases b2 with
    | false =>
      clear hok
      go_wp2
      go_ret
      exact ⟨rfl, hn1.trans hn2⟩
    | true =>
      have HOK := Lib.hid (hok rfl)
      have hnw2 := hn1.trans hn2
      clear hok hqs
      have hqp := Lib.hid (Stops_any HOK.out.1 HOK.out.2 _ w2 (HG.out.1.new hnw2))
      have HN2 := Lib.hid hnw2
      clear hnw2 hn1 hn2
      go_wp2_with fail
      refine hqp.out.mono ?_
      rintro e w3 ⟨b3, rfl, hst, hn3⟩
      cases b3 with
      | true =>
        clear hst
        go_wp2
        go_ret
        exact ⟨rfl, HN2.out.trans hn3⟩
      | false =>
        have HST := Lib.hid (hst rfl)
        have hnw3 := HN2.out.trans hn3
        clear hst hqp
        have hq := Lib.hid (States_any HOK.out.1 HOK.out.2 _ w3 (HG.out.1.new hnw3))
        have HN3 := Lib.hid hnw3
        clear hnw3 hn3
        go_wp2_with fail
        refine hq.out.mono ?_
        rintro e w4 ⟨vL, vE, c, A, E, rfl, hd, hT, hM, hE, ho, _, hn4⟩
        have hnw4 := HN3.out.trans hn4
        have hq2 := Lib.hid (Table_any HOK.out.1 HOK.out.2 HST.out _ w4 (HG.out.1.new hnw4) (HG.out.2.2.new hnw4))
        have H4 := Lib.hid (And.intro hd (And.intro hT (And.intro hM (And.intro hE (And.intro ho hnw4)))))
        obtain ⟨aL, cL, rfl⟩ := hM.slice
        obtain ⟨aE, cE, rfl⟩ := hE.slice
        clear hd hT hM hE ho hn4 hnw4 hq
        go_wp2_with fail
        refine hq2.out.mono ?_
        rintro e w5 ⟨vA, vG, vC, c', Ls, Eg, C, rfl, hd', hTab, hn5⟩
        have hLS : LawS g (collC g (symsG g) c) w5 (.slice aL A.length cL) (.slice aE E.length cE) vA vG vC A Ls E Eg C := by
          obtain ⟨hd, hT, hM, hE, ho, _⟩ := H4.out
          rw [hd'.eq hd] at hTab
          have hN : (collC g (symsG g) c).length ≤ 120 := HOK.out.2.le hT.full.toGamOk
          exact ⟨hT, hM.new hn5, hE.new hn5, ho, hTab, tab_ok HOK.out.1.toSm HST.out hT hTab.len hTab.its, by rw [hT.len]; exact hN, edges_len HOK.out.1.toSm hT hN⟩
        have HLS := Lib.hid (And.intro hLS (H4.out.2.2.2.2.2.trans hn5))
        obtain ⟨aC, cC, eC⟩ := hLS.tab.cls.slice
        obtain ⟨aA, cA, eA⟩ := hLS.tab.act.slice
        obtain ⟨aG, cG, eG⟩ := hLS.tab.edg.slice
        subst eC; subst eA; subst eG
        have hAl := hLS.la
        have hA0 : 0 < A.length := by
          rw [hLS.told.len]; exact (List.getElem?_eq_some_iff.1 hLS.told.full.zero).1
        have hA0b : ((A.length : Int) == 0) = false := beq_eq_false_iff_ne.2 (by omega)
        have hAcl : Hid ((actsF (stF g (collC g (symsG g) c) Ls) (trmF g) (collC g (symsG g) c).length).length ≤ 10000) := Lib.hid (by
          have h2 := actsF_len (stF g (collC g (symsG g) c) Ls) (trmF g) (collC g (symsG g) c).length
          have h3 := trm_len HOK.out.1.toSm hLS.tab.trm
          have h4 : (collC g (symsG g) c).length ≤ 120 := by rw [← hLS.told.len]; exact hAl
          have h5 := Nat.mul_le_mul h3 h4
          omega)
        obtain ⟨AC, hAC⟩ : ∃ AC, AC = actsF (stF g (collC g (symsG g) c) Ls) (trmF g) (collC g (symsG g) c).length := ⟨_, rfl⟩
        have hACR := hLS.tab.act
        rw [← hAC] at hACR hAcl ⊢
        have HACR := Lib.hid hACR
        have HACE := Lib.hid hAC
        clear hACR hAC
        clear hLS hTab hd' hn5 hq2
        go_wp2_with fail
        go_loopg [56] A.length (fun gk u56 wr => ∃ k : Nat, k ≤ A.length ∧ gk = A.length - k ∧ u56 = .int .i64 k ∧ Hid (New w5 wr))
        case atStart => exact ⟨0, Nat.zero_le _, rfl, rfl, Lib.hid (New.refl w5)⟩
        case round =>
          obtain ⟨k, hk, rfl, rfl, hn⟩ := hrel
          by_cases hlt : k < A.length
          · obtain ⟨b, o, a', c9, e, h1, h2⟩ := (HLS.out.1.mat.new hn.out).elem hlt
            cases e
            have hkΓ : k < (collC g (symsG g) c).length := by rw [← HLS.out.1.told.len]; exact hlt
            have hv : ∀ x ∈ A[k], Vld g (collC g (symsG g) c)[k] x := fun x hx => (HLS.out.1.told.items k _ _ (List.getElem?_eq_getElem hkΓ) (List.getElem?_eq_getElem hlt) x).1 hx
            have hll := items_le2 HOK.out.1.toSm (HLS.out.1.ord _ (List.getElem_mem hlt)) hv
            have hLa : A[k]? = some A[k] := List.getElem?_eq_getElem hlt
            have HV := Lib.hid (And.intro hv (And.intro hLa h2))
            clear hv hLa h2
            have hqL := Lib.hid (Looks_any _ g wr (HG.out.1.new (HLS.out.2.trans hn.out)) HOK.out.1.toSm)
            have HN := Lib.hid hn.out
            clear hn
            go_wp2_with (go_at_call 34; refine hqL.out.mono ?_; rintro e w6 ⟨vK, rfl, hK6, hn6⟩; obtain ⟨aK, cK, eK⟩ := owns_slice hK6; subst eK)
            have H6 := Lib.hid (And.intro hK6.at (And.intro (HN.out.trans hn6) (HV.out.2.2.new hn6)))
            clear hK6 hn6 hqL
            go_loopg [64] (looksF g).length (fun gj u64 wq => ∃ j : Nat, j ≤ (looksF g).length ∧ gj = (looksF g).length - j ∧ u64 = .int .i64 j ∧ Hid (New w6 wq))
            case atStart => exact ⟨0, Nat.zero_le _, rfl, rfl, Lib.hid (New.refl w6)⟩
            case round =>
              obtain ⟨j, hj, rfl, rfl, hn⟩ := hrel
              by_cases hjl : j < (looksF g).length
              · obtain ⟨b2, o2, e, h4⟩ := (H6.out.1.new hn.out).elem hjl
                cases e
                have hsL := List.getElem_mem hjl
                have hs0 := looks_ne HOK.out.1.toSm hsL
                have hll2 := looks_len HOK.out.1.toSm
                have hhit := table_law HLS.out.1.tab.trm (termsOk HOK.out.1.toSm) HLS.out.1.ok HV.out.2.1 hsL
                have hnA := hn.out
                have hq := Lib.hid (Said_any HOK.out.1 HV.out.1 (by omega) (E := E) (by have := HLS.out.1.le; omega) _ _ _ k (looksF g)[j] hs0 wr (HG.out.1.new ((HLS.out.2.trans H6.out.2.1).trans hnA)) (H6.out.2.2.new hnA) (HLS.out.1.edg.new (H6.out.2.1.trans hnA)))
                have hac := acsOf_len k (looksF g)[j] (saidF g A[k] E k (looksF g)[j])
                have hSl := saidF_len g A[k] E k (looksF g)[j]
                rw [← HACE.out] at hhit
                have HHIT := Lib.hid hhit
                have HSL := Lib.hid (And.intro hSl HLS.out.1.le)
                have HNA := Lib.hid (And.intro hnA hAcl.out)
                clear hhit hnA hn hsL hSl
                generalize (looksF g)[j] = s at *
                generalize saidF g A[k] E k s = S at *
                go_wp2_with (first | (go_at_call 35; refine hq.out.mono ?_; rintro e w7 ⟨vS, rfl, hS7, hn7⟩; have HS7 := Lib.hid hS7; obtain ⟨aS, cS, eS⟩ := hS7.slice; subst eS; rw [hac]; have HN8 := Lib.hid (HNA.out.1.trans hn7); clear hS7 hn7))
                have hb0 : (w7.alloc (.cells #[.int .i64 (k : Int), sv s, .int .i64 0, .int .i64 0] 61)).heap[w7.heap.size]? = some (.cells (ac4 (lastA k s (AC.take 0))).toArray 61 (0, 0)) := heap_alloc_new w7 _
                have hN7 : New w7 (w7.alloc (.cells #[.int .i64 (k : Int), sv s, .int .i64 0, .int .i64 0] 61)) := (New.refl w7).alloc _
                have H7 := Lib.hid (And.intro hb0 hN7)
                have Hq := Lib.hid (Nat.le_refl w7.heap.size)
                clear hb0 hN7
                generalize hqq : w7.heap.size = q at H7
                have HQ := Lib.hid hqq
                clear hqq Hq
                generalize w7.alloc (.cells #[.int .i64 (k : Int), sv s, .int .i64 0, .int .i64 0] 61) = W8 at *
                go_loopg [79] AC.length (fun gm u79 wr => ∃ m : Nat, m ≤ AC.length ∧ gm = AC.length - m ∧ u79 = .int .i64 m ∧ Hid (wr.heap[q]? = some (.cells (ac4 (lastA k s (AC.take m))).toArray 61 (0, 0))) ∧ Hid (New w7 wr))
                case atStart => exact ⟨0, Nat.zero_le _, rfl, rfl, Lib.hid H7.out.1, Lib.hid H7.out.2⟩
                case round =>
                  obtain ⟨m, hmm, rfl, rfl, hO, hn⟩ := hrel
                  have hmb : AC.length ≤ 10000 := HNA.out.2
                  by_cases hml : m < AC.length
                  · obtain ⟨b3, o3, e, hcell⟩ := (HACR.out.new ac4_len (H6.out.2.1.trans (HN8.out.trans hn.out))).elem hml
                    cases e
                    obtain ⟨d0, d1, d2, d3⟩ := elem4 hcell
                    have hlt2 := lastA_take (i := k) (s := s) hml
                    clear hcell
                    generalize AC[m] = x at *
                    generalize hyy : lastA k s (AC.take (m + 1)) = y' at *
                    have HYY := Lib.hid hyy
                    clear hyy
                    generalize lastA k s (AC.take m) = y at *
                    obtain ⟨x0, x1, x2, x3⟩ := x
                    obtain ⟨y0, y1, y2, y3⟩ := y
                    simp only [ac4, List.getElem?_cons_zero, List.getElem?_cons_succ] at d0 d1 d2 d3 hO
                    have hA : New wr (wr.alloc (.cells #[.int .i64 (x0 : Int), sv x1, .int .i64 x2, .int .i64 x3] 61)) := (New.refl wr).alloc _
                    have g0 := (cell_of_blk hO.out 0).trans rfl
                    have g1 := (cell_of_blk hO.out 1).trans rfl
                    have g2 := (cell_of_blk hO.out 2).trans rfl
                    have g3 := (cell_of_blk hO.out 3).trans rfl
                    have k0 := free_of_blk hO.out
                    have hql := lt_of_block hO.out
                    have hqw : Hid (w7.heap.size ≤ q) := Lib.hid (Nat.le_of_eq HQ.out)
                    have HB := Lib.hid (And.intro hO.out (And.intro hn.out hlt2))
                    clear hA hlt2 hO hn
                    by_cases hx0 : x0 = k
                    · subst hx0
                      by_cases hx1 : x1 = s
                      · subst hx1
                        have hst : (if hitA x0 x1 (x0, x1, x2, x3) then (x0, x1, x2, x3) else (y0, y1, y2, y3)) = ((x0, x1, x2, x3) : Ac) := if_pos (by simp [hitA])
                        have HST := Lib.hid hst
                        clear hst
                        go_wp2_with fail
                        go_roundg (AC.length - (m + 1))
                        case measure => omega
                        case rel => exact ⟨m + 1, by omega, rfl, by go_num, Lib.hid (by rw [HYY.out, HB.out.2.2, HST.out]; exact ((New.refl _).alloc _).heap (set4 HB.out.1 _ _ _ _)), Lib.hid ((new4 HB.out.2.1 hqw.out _ _ _ _).alloc _)⟩
                      · have hx1b : (x1 == s) = false := beq_eq_false_iff_ne.2 hx1
                        have hst : (if hitA x0 s (x0, x1, x2, x3) then (x0, x1, x2, x3) else (y0, y1, y2, y3)) = ((y0, y1, y2, y3) : Ac) := if_neg (by simp [hitA, hx1])
                        have HST := Lib.hid hst
                        clear hst hx1
                        go_wp2_with fail
                        go_roundg (AC.length - (m + 1))
                        case measure => omega
                        case rel => exact ⟨m + 1, by omega, rfl, by go_num, Lib.hid (by rw [HYY.out, HB.out.2.2, HST.out]; exact ((New.refl _).alloc _).heap HB.out.1), Lib.hid (HB.out.2.1.alloc _)⟩
                    · have hx0b : ((x0 : Int) == (k : Int)) = false := beq_eq_false_iff_ne.2 (by omega)
                      have hst : (if hitA k s (x0, x1, x2, x3) then (x0, x1, x2, x3) else (y0, y1, y2, y3)) = ((y0, y1, y2, y3) : Ac) := if_neg (by simp [hitA, hx0])
                      have HST := Lib.hid hst
                      clear hst hx0
                      go_wp2_with fail
                      go_roundg (AC.length - (m + 1))
                      case measure => omega
                      case rel => exact ⟨m + 1, by omega, rfl, by go_num, Lib.hid (by rw [HYY.out, HB.out.2.2, HST.out]; exact ((New.refl _).alloc _).heap HB.out.1), Lib.hid (HB.out.2.1.alloc _)⟩
                  · have e : lastA k s (AC.take m) = lastA k s AC := by rw [List.take_of_length_le (by omega)]
                    rw [e] at hO
                    have HE := Lib.hid (And.intro hO.out hn.out)
                    clear hO hn e
                    by_cases hS : S = []
                    · have hkz := HHIT.out.1 hS
                      have e2 := (cell_of_blk HE.out.1 2).trans rfl
                      have HKZ := Lib.hid hkz
                      generalize lastA k s AC = y at *
                      obtain ⟨y0, y1, y2, y3⟩ := y
                      simp only at HKZ
                      obtain rfl : y2 = 0 := HKZ.out
                      simp only [ac4, List.getElem?_toArray, List.getElem?_cons_zero, List.getElem?_cons_succ] at e2
                      subst hS
                      simp only [List.length_nil] at *
                      clear hkz HKZ
                      go_wp2_with fail
                      go_roundg ((looksF g).length - (j + 1))
                      case measure => omega
                      case rel => exact ⟨j + 1, by omega, rfl, by go_num, Lib.hid (HN8.out.trans HE.out.2)⟩
                    · obtain ⟨y, hy, hlast⟩ := HHIT.out.2 hS
                      have hS0 : 0 < S.length := List.length_pos_iff.2 hS
                      rw [hlast] at HE
                      have e0 := (cell_of_blk HE.out.1 0).trans rfl
                      have e1 := (cell_of_blk HE.out.1 1).trans rfl
                      have e2 := (cell_of_blk HE.out.1 2).trans rfl
                      have e3 := (cell_of_blk HE.out.1 3).trans rfl
                      simp only [ac4, List.getElem?_toArray, List.getElem?_cons_zero, List.getElem?_cons_succ] at e0 e1 e2 e3
                      have hqc := Lib.hid (Contains_ac (HS7.out.new ac4_len HE.out.2) (by rw [hac]; have := HSL.out.1; have := HSL.out.2; omega) (k, s, y.1, y.2))
                      rw [decide_eq_true (acsOf_mem.2 hy), hac] at hqc
                      have hz : ¬ ((S.length : Int) = 0) := by omega
                      have hzb : ((S.length : Int) == 0) = false := beq_eq_false_iff_ne.2 hz
                      have hzp : (0 : Int) < (S.length : Int) := by omega
                      have hzpb : decide ((0 : Int) < (S.length : Int)) = true := decide_eq_true hzp
                      have HNE := Lib.hid (HN8.out.trans HE.out.2)
                      clear hS hy hlast
                      obtain ⟨y1, y2⟩ := y
                      simp only at e2 e3 hqc
                      go_wp2_with (go_at_call 38; refine hqc.out.mono ?_; rintro e w9 ⟨rfl, hn9⟩)
                      go_roundg ((looksF g).length - (j + 1))
                      case measure => omega
                      case rel => exact ⟨j + 1, by omega, rfl, by go_num, Lib.hid (HNE.out.trans hn9)⟩
              · have HN2 := Lib.hid (H6.out.2.1.trans hn.out)
                clear hn
                go_wp2
                go_roundg (A.length - (k + 1))
                case measure => omega
                case rel => exact ⟨k + 1, by omega, rfl, by go_num, HN2⟩
          · have HN := Lib.hid hn.out
            have hEb := HLS.out.1.le
            have hEgl : Eg.length ≤ 120000 := by
              have h1 := nodup_le_of (V := Eg) (L := E) HLS.out.1.tab.edgs.nodup fun x hx => (HLS.out.1.told.edges x).2 ((HLS.out.1.tab.edgs.mem x).1 hx).2.1
              omega
            clear hn
            go_wp2_with fail
            go_loopg [118] E.length (fun gk u118 wr => ∃ m : Nat, m ≤ E.length ∧ gk = E.length - m ∧ u118 = .int .i64 m ∧ Hid (New w5 wr))
            case atStart => exact ⟨0, Nat.zero_le _, rfl, rfl, HN⟩
            case round =>
              clear HN
              obtain ⟨m, hm, rfl, rfl, hn⟩ := hrel
              by_cases hml : m < E.length
              · obtain ⟨b2, o2, x, e, hx, h1, h2, h3⟩ := (HLS.out.1.edg.new hn.out).elemX hml
                cases e
                have hxE : x ∈ E := List.mem_of_getElem? hx
                have heq : has (headsF g) x.2.1 = decide (x ∈ Eg) := by
                  have he := (HLS.out.1.told.edges x).1 hxE
                  rw [Bool.eq_iff_iff, has_iff, headsF_mem, decide_eq_true_iff, HLS.out.1.tab.edgs.mem]
                  exact ⟨fun h => ⟨he.lt.1, he, fun _ => h⟩, fun h => h.2.2 rfl⟩
                have hqh := Lib.hid (fun W (hW : New wr W) => Heads_any _ g W (HG.out.1.new ((HLS.out.2.trans hn.out).trans hW)) (by have := HOK.out.1.toSm.len; omega))
                have hqe := Lib.hid (fun W (hW : New wr W) => Contains_edg (HLS.out.1.tab.edg.new (hn.out.trans hW)) (by omega) x)
                rw [← heq] at hqe
                have hhl := headsF_len g
                have hgl := HOK.out.1.toSm.len
                have HNN := Lib.hid hn.out
                clear hx hxE heq hn
                obtain ⟨x0, x1, x2⟩ := x
                simp only [edg3] at h1 h2 h3 hqe
                have hW0 : New wr (wr.alloc (.cells #[.int .i64 (x0 : Int), sv x1, .int .i64 (x2 : Int)] 64)) := (New.refl wr).alloc _
                have c0 : (wr.alloc (.cells #[.int .i64 (x0 : Int), sv x1, .int .i64 (x2 : Int)] 64)).cell? ⟨wr.heap.size, 0, none⟩ = some (.int .i64 (x0 : Int)) := by simp
                have c1 : (wr.alloc (.cells #[.int .i64 (x0 : Int), sv x1, .int .i64 (x2 : Int)] 64)).cell? ⟨wr.heap.size, 1, none⟩ = some (sv x1) := by simp
                have c2 : (wr.alloc (.cells #[.int .i64 (x0 : Int), sv x1, .int .i64 (x2 : Int)] 64)).cell? ⟨wr.heap.size, 2, none⟩ = some (.int .i64 (x2 : Int)) := by simp
                have HC := Lib.hid (And.intro hW0 (And.intro c0 (And.intro c1 c2)))
                clear hW0 c0 c1 c2
                have hqs := Lib.hid (fun W vH (h : StrsAt W vH (headsF g)) => Contains_str vH (headsF g) x1 W h (by omega))
                generalize has (headsF g) x1 = bb at *
                go_wp2_with fail
                have hW0 := HC.out.1
                obtain ⟨c0, c1, c2⟩ := HC.out.2
                generalize wr.heap.size = q at *
                generalize wr.alloc (.cells #[.int .i64 (x0 : Int), sv x1, .int .i64 (x2 : Int)] 64) = W at *
                clear h1 h2 h3 HC
                go_region_held3 (fun w' => w'.cell? ⟨q, 0, none⟩ = some (.int .i64 (x0 : Int)) ∧ w'.cell? ⟨q, 1, none⟩ = some (sv x1) ∧ w'.cell? ⟨q, 2, none⟩ = some (.int .i64 (x2 : Int)))
                  (first | exact ⟨c0, c1, c2⟩ | exact ⟨HK.out.1, HK.out.2.1, HK.out.2.2⟩ | exact ⟨HK2.out.1, HK2.out.2.1, HK2.out.2.2⟩ | go_keep)
                  (first
                    | (go_at_call 16; refine (hqh.out _ (by first | exact hW0.drewN 1 | exact hW0 | exact hW0.drewN _)).mono ?_; rintro e w6 ⟨vH, rfl, hoH, hn6⟩; have HK := Lib.hid (And.intro (hn6.cell (show (W.drewN 1).cell? _ = _ from c0)) (And.intro (hn6.cell (show (W.drewN 1).cell? _ = _ from c1)) (hn6.cell (show (W.drewN 1).cell? _ = _ from c2)))); have HH6 := Lib.hid (And.intro hoH.at ((hW0.drewN 1).trans hn6)))
                    | (go_at_call 15; refine (hqs.out _ _ HH6.out.1).mono ?_; rintro e w7 ⟨rfl, rfl⟩)
                    | (go_at_call 40; refine (hqe.out _ HH6.out.2).mono ?_; rintro e w8 ⟨rfl, hn8⟩; have HK2 := Lib.hid (And.intro (hn8.cell HK.out.1) (And.intro (hn8.cell HK.out.2.1) (hn8.cell HK.out.2.2)))))
                all_goals (try simp only [Exit.then])
                go_wp2
                go_roundg (E.length - (m + 1))
                case measure => omega
                case rel => exact ⟨m + 1, by omega, rfl, by go_num, Lib.hid (HNN.out.trans (HH6.out.2.trans hn8))⟩
              · have HN := Lib.hid (HLS.out.2.trans hn.out)
                clear hn
                go_wp2
                go_ret
                exact ⟨rfl, HN.out⟩
end Go.Proofs.YtdejcdmgcckmoaaGreatDoor

/- The package: all states. -/
import Derived.Test.YtdejcdmgcckmoaaGreatDoorYR
namespace Go.Proofs.YtdejcdmgcckmoaaGreatDoor
open Go.RowKit Lr

theorem T86 : SliceTy Tryz.prog 86 88 1 8 (.pointer none) := ⟨Tryz.underlying86, by kernel_rfl, rfl, by omega⟩
/-- The symbols that a state has tried: all up to c, those ahead of s at c. -/
def Dcs (g : Gram) (c s : Nat) : Nat → List Str := fun k => if k < c then symsG g else if k = c then (symsG g).take s else []
theorem Dcs_zero (g : Gram) (c : Nat) : Dcs g c 0 = fun k => if k < c then symsG g else [] := by
  funext k; unfold Dcs; by_cases h : k < c <;> simp [h]
theorem Dcs_next {g : Gram} {c s : Nat} (h : (symsG g).length ≤ s) : Dcs g c s = Dcs g (c + 1) 0 := by
  funext k
  unfold Dcs
  by_cases h1 : k < c
  · rw [if_pos h1, if_pos (by omega)]
  · rw [if_neg h1]
    by_cases h2 : k = c
    · rw [if_pos h2, if_pos (by omega), List.take_of_length_le h]
    · rw [if_neg h2, if_neg (by omega)]; simp
theorem Dcs_step {g : Gram} {c s : Nat} (h : s < (symsG g).length) : ∀ i, Dcs g c (s + 1) i = if i = c then Dcs g c s i ++ [(symsG g)[s]] else Dcs g c s i := by
  intro i
  unfold Dcs
  by_cases h1 : i < c
  · rw [if_pos h1, if_pos h1, if_neg (by omega)]
  · rw [if_neg h1, if_neg h1]
    by_cases h2 : i = c
    · rw [if_pos h2, if_pos h2, if_pos h2, List.take_succ_eq_append_getElem h]
    · rw [if_neg h2, if_neg h2, if_neg h2]

theorem cell_set_ne (w : World) {p g : Nat} (h : p ≠ g) (j : Nat) (u : Value) : (w.setCell ⟨p, 0, none⟩ u).cell? ⟨g, j, none⟩ = w.cell? ⟨g, j, none⟩ := by
  have hb : (w.setCell ⟨p, 0, none⟩ u).heap[g]? = w.heap[g]? := by
    simp [World.setCell, Array.getElem?_modify]
    intro e; exact absurd e h
  unfold World.cell?
  rw [hb]

set_option maxRecDepth 20000 in
set_option maxHeartbeats 4000000 in
theorem GetItemSets_any {g : Gram} (hg : GOk g) (hfew : Few g 120) {w : World} {x ps fp y : Nat} {prods : Value} (hx : w.cell? ⟨x, 0, none⟩ = some (.pointer (some ⟨y, 0, none⟩))) (hy : w.cell? ⟨y, 1, none⟩ = some prods) (hc : Ctx g w ps fp prods) :
    Calls Tryz.prog 104 #[.pointer (some ⟨x, 0, none⟩), .pointer (some ⟨ps, 0, none⟩), .pointer (some ⟨fp, 0, none⟩)] w fun e w' => ∃ q vS R c, e = .returned (.pointer (some ⟨q, 0, none⟩)) ∧
      GSt g w w w' (.pointer (some ⟨ps, 0, none⟩)) prods (.pointer (some ⟨fp, 0, none⟩)) q vS R (collC g (symsG g) c) (Dcs g c 0) ∧ DoneC g (symsG g) c := by
  have hq1 := Lib.hid (InitialItemSet_any hg.toSm (fp := fp) (ps := ps) (New.refl w) hx hy hc.prods)
  obtain ⟨B1, a1, a2, a3, r2, r4, r5, ns, hsym⟩ := hc.sym
  have hsl : (symsG g).length ≤ 1000 := types_len hg.toSm
  have hsf := types_fit hg.toSm
  obtain ⟨ar, cr, rfl⟩ := owns_slice hsym.tmr
  have HH := Lib.hid (And.intro hc (And.intro hsym (And.intro hsf hfew)))
  clear hx hy hc hsym hsf hfew
  go_enter Tryz.func104, Tryz.ntmps104
  go_wp2_with fail
  refine hq1.out.mono ?_
  rintro e w1 ⟨p1, m1, m2, v1, b1, n1, rfl, hst1, hn1⟩
  have hq2 := Lib.hid (Closure_any hg HH.out.1 hn1 hst1 (γ := []) base_nil (by simp))
  have H1 := Lib.hid hn1
  clear hst1 hn1 hq1
  go_wp2_with fail
  refine hq2.out.mono ?_
  rintro e w2 ⟨p2, m3, m4, v2, L2, n2, rfl, hcs⟩
  have hs2 := (hcs.state base_nil)
  have hn2 := H1.out.trans hcs.new
  have hG0 : GSt g w w ((w2.alloc (.cells #[.pointer (some ⟨p2, 0, none⟩)] 88)).alloc (.cells #[.slice (some ⟨w2.heap.size, 0, none⟩) 1 1] 231)) (.pointer (some ⟨ps, 0, none⟩)) prods (.pointer (some ⟨fp, 0, none⟩)) (w2.heap.size + 1) (.slice (some ⟨w2.heap.size, 0, none⟩) 1 1) [⟨p2, m3, m4, -1, v2, L2, n2⟩] (collC g (symsG g) 0) (Dcs g 0 0) := by
    have hna : New w2 (w2.alloc (.cells #[.pointer (some ⟨p2, 0, none⟩)] 88)) := (New.refl w2).alloc _
    have hnb : New w2 ((w2.alloc (.cells #[.pointer (some ⟨p2, 0, none⟩)] 88)).alloc (.cells #[.slice (some ⟨w2.heap.size, 0, none⟩) 1 1] 231)) := hna.alloc _
    have hnc : New (w2.alloc (.cells #[.pointer (some ⟨p2, 0, none⟩)] 88)) ((w2.alloc (.cells #[.pointer (some ⟨p2, 0, none⟩)] 88)).alloc (.cells #[.slice (some ⟨w2.heap.size, 0, none⟩) 1 1] 231)) := (New.refl _).alloc _
    have hsz := H1.out.size
    have hsz2 := hn2.size
    refine ⟨rfl, GamOk.init, fun k hk => ?_, fun k hk => ?_, fun k i hk hi => ?_, fun k i hk hi h => ?_, fun k hk => ?_, ?_, ?_, ?_, hn2.trans hnb⟩
    · have : k = 0 := by simp at hk; omega
      subst this
      exact ⟨(hs2.st.weak hsz).new hnb, hs2.n, hs2.nd, hs2.all, hs2.mne⟩
    · have : k = 0 := by simp at hk; omega
      subst this
      exact Nat.le_trans hsz hcs.m2B
    · have : k = 0 := by simp at hk; omega
      have : i = 0 := by simp at hi; omega
      subst k; subst i
      exact hs2.mne
    · have : k = 0 := by simp at hk; omega
      have : i = 0 := by simp at hi; omega
      omega
    · have : k = 0 := by simp at hk; omega
      subst this
      refine ⟨0, _, hcs.tr.new hnb, Nat.zero_le _, fun γ _ => ⟨fun X hX => ?_, fun X hX => absurd rfl hX⟩⟩
      simp [Dcs] at hX
    · refine ⟨rfl, .inr ⟨w2.heap.size, 1, _, rfl, by omega, hnc.heap (heap_alloc_new w2 _), by simp, by unfold maxLen; omega, by simp, by simp⟩⟩
    · have := heap_alloc_new (w2.alloc (.cells #[.pointer (some ⟨p2, 0, none⟩)] 88)) (.cells #[.slice (some ⟨w2.heap.size, 0, none⟩) 1 1] 231)
      simpa using this
    · omega
  have hqs := Lib.hid (SymList_any (HH.out.2.1.new hG0.new))
  have HG := Lib.hid hG0
  clear hcs hs2 hn2 hq2 hG0
  go_wp2_with fail
  generalize ((w2.alloc (.cells #[.pointer (some ⟨p2, 0, none⟩)] 88)).alloc (.cells #[.slice (some ⟨w2.heap.size, 0, none⟩) 1 1] 231)) = w3 at *
  refine hqs.out.mono ?_
  rintro e w4 ⟨rfl, rfl⟩
  go_wp2_with fail
  go_loopg [9, 10] 120 (fun gk u9 u10 wr => ∃ (c : Nat) (ag : Bool) (vS : Value) (R : List Rec), u9 = .int .i64 ((c : Int) - 1) ∧ u10 = .bool ag ∧ gk = (if ag then 121 - R.length else 0) ∧
    GSt g w w wr (.pointer (some ⟨ps, 0, none⟩)) prods (.pointer (some ⟨fp, 0, none⟩)) (w2.heap.size + 1) vS R (collC g (symsG g) c) (Dcs g c 0) ∧ c ≤ R.length ∧ (ag = false → R.length ≤ c))
  case atStart => exact ⟨0, true, _, _, rfl, rfl, rfl, HG.out, Nat.zero_le _, nofun⟩
  case round =>
    clear HG
    obtain ⟨c, ag, vS, R, rfl, rfl, rfl, hG, hcR, hag⟩ := hrel
    have hRl : R.length ≤ 120 := by rw [hG.len]; exact HH.out.2.2.2.le hG.gam
    cases ag with
    | false =>
      have hd := hag rfl
      have HX := Lib.hid (And.intro hG hd)
      clear hag hG hd
      go_wp2
      go_ret
      exact ⟨w2.heap.size + 1, vS, R, c, rfl, HX.out.1, by have h1 := HX.out.1.len; have h2 := HX.out.2; unfold DoneC; omega⟩
    | true =>
      clear hag
      generalize wr = ws at *
      have hpos : 0 < R.length := by
        rw [hG.len]
        exact (List.getElem?_eq_some_iff.1 hG.gam.zero).1
      obtain ⟨gs, cs, rfl, hgsl, hgsB, hcells⟩ := row_ptr hG.row (by simpa using hpos)
      have c2 := cell_of_blk hG.qq 0
      simp only [List.getElem?_toArray, List.getElem?_cons_zero] at c2
      have hgq : gs ≠ w2.heap.size + 1 := fun e => by
        have h1 := hG.row.2
        rcases h1 with ⟨h1, _⟩ | ⟨g1, c1, cur, h1, _, h2, _⟩
        · cases h1
        · cases h1; rw [e, hG.qq] at h2; cases h2
      have HGQ := Lib.hid hgq
      have hcell : ∀ j (hj : j < R.length), ws.cell? ⟨gs, j, none⟩ = some (.pointer (some ⟨R[j].p, 0, none⟩)) := fun j hj => hcells j _ (by rw [List.getElem?_map, List.getElem?_eq_getElem hj]; rfl)
      have HX := Lib.hid (And.intro hG hcell)
      clear hG hcells hcell
      go_wp2_with fail
      clear c2
      go_loopg [9, 10, 33] R.length (fun gk u9 u10 u33 wr => ∃ (idx c : Nat) (ag : Bool) (vS : Value) (R' : List Rec), u33 = .int .i64 idx ∧ idx ≤ R.length ∧ gk = R.length - idx ∧ u9 = .int .i64 ((c : Int) - 1) ∧ u10 = .bool ag ∧ idx ≤ c ∧ c ≤ R.length ∧
        Hid (ag = decide (R.length < R'.length) ∧ (∃ ext, R' = R ++ ext) ∧ (∀ j (hj : j < R.length), wr.cell? ⟨gs, j, none⟩ = some (.pointer (some ⟨R[j].p, 0, none⟩)))) ∧ GSt g w w wr (.pointer (some ⟨ps, 0, none⟩)) prods (.pointer (some ⟨fp, 0, none⟩)) (w2.heap.size + 1) vS R' (collC g (symsG g) c) (Dcs g c 0))
      case atStart => exact ⟨0, c, false, _, R, rfl, Nat.zero_le _, rfl, rfl, rfl, Nat.zero_le _, hcR, Lib.hid ⟨by simp, ⟨[], by simp⟩, HX.out.2⟩, HX.out.1⟩
      case round =>
        clear HX hcR
        obtain ⟨idx, c, ag, vS, R', rfl, hix, rfl, rfl, rfl, hic, hcR, HQ, hG⟩ := hrel
        by_cases hlt : idx < R.length
        · have d0 := HQ.out.2.2 idx hlt
          by_cases hci : idx < c
          · have hdk : decide ((c : Int) - 1 < (idx : Int)) = false := by simpa using (by omega : (idx : Int) ≤ (c : Int) - 1)
            have HX := Lib.hid hG
            clear hG
            generalize R[idx].p = pI at *
            go_wp2
            go_roundg (R.length - (idx + 1))
            case measure => omega
            case rel => exact ⟨idx + 1, c, ag, vS, R', by go_num, by omega, rfl, rfl, rfl, by omega, hcR, HQ, HX.out⟩
          · have hce : idx = c := by omega
            subst hce
            have hdk : decide ((idx : Int) - 1 < (idx : Int)) = true := by simpa using (by omega : (idx : Int) - 1 < (idx : Int))
            have hlt' : idx < R'.length := by obtain ⟨ext, h⟩ := HQ.out.2.1; rw [h, List.length_append]; omega
            obtain ⟨γ, hγ⟩ : ∃ γ, (collC g (symsG g) idx)[idx]? = some γ := ⟨_, List.getElem?_eq_getElem (by rw [← hG.len]; exact hlt')⟩
            have HGA := Lib.hid hγ
            have HX := Lib.hid hG
            clear hG hγ
            generalize hpI : R[idx].p = pI at *
            have HPI := Lib.hid hpI
            clear hpI
            go_wp2_with fail
            clear d0
            go_loopg [10, 43] (symsG g).length (fun gk u10 u43 wr => ∃ (s : Nat) (ag : Bool) (vS : Value) (R' : List Rec), u43 = .int .i64 s ∧ s ≤ (symsG g).length ∧ gk = (symsG g).length - s ∧ u10 = .bool ag ∧
              Hid (ag = decide (R.length < R'.length) ∧ (∃ ext, R' = R ++ ext) ∧ (∀ j (hj : j < R.length), wr.cell? ⟨gs, j, none⟩ = some (.pointer (some ⟨R[j].p, 0, none⟩)))) ∧ GSt g w w wr (.pointer (some ⟨ps, 0, none⟩)) prods (.pointer (some ⟨fp, 0, none⟩)) (w2.heap.size + 1) vS R' (rowC g γ ((symsG g).take s) (collC g (symsG g) idx)) (Dcs g idx s))
            case atStart => exact ⟨0, ag, vS, R', rfl, Nat.zero_le _, rfl, rfl, HQ, HX.out⟩
            case round =>
              clear HX HQ hlt'
              obtain ⟨s, ag, vS, R', rfl, hs, rfl, rfl, HQ, hG⟩ := hrel
              by_cases hls : s < (symsG g).length
              · obtain ⟨bR, oR, rfl, d1⟩ := (HH.out.2.1.tmr.new hG.new).at.elem hls
                have hXl := HH.out.2.2.1 _ (List.getElem_mem hls)
                have hXn : (symsG g)[s] ∉ (symsG g).take s := fun h => by
                  have hn := symsG_nodup g
                  rw [← List.take_append_drop s (symsG g), List.drop_eq_getElem_cons hls] at hn
                  exact absurd rfl ((List.nodup_append.1 hn).2.2 _ h _ (List.mem_cons_self ..))
                have hstep := row_step (g := g) (γ := γ) (syms := symsG g) (Γ := collC g (symsG g) idx) hls
                have hDs := Dcs_step (g := g) (c := idx) hls
                obtain ⟨Lx, hpre⟩ := rowC_pre (g := g) γ ((symsG g).take s) (collC g (symsG g) idx)
                have hγ' : (rowC g γ ((symsG g).take s) (collC g (symsG g) idx))[idx]? = some γ := by
                  rw [hpre, List.getElem?_append_left (List.getElem?_eq_some_iff.1 HGA.out).1]
                  exact HGA.out
                have hir : idx < R'.length := by obtain ⟨ext, h⟩ := HQ.out.2.1; rw [h, List.length_append]; omega
                have hRi : R'[idx] = R[idx] := by
                  obtain ⟨ext, h⟩ := HQ.out.2.1
                  simp only [h]
                  rw [List.getElem_append_left hlt]
                have hrec := hG.recs idx hir
                have hγe : (rowC g γ ((symsG g).take s) (collC g (symsG g) idx))[idx]'(by rw [← hG.len]; exact hir) = γ := by
                  have := List.getElem?_eq_getElem (l := rowC g γ ((symsG g).take s) (collC g (symsG g) idx)) (i := idx) (by rw [← hG.len]; exact hir)
                  rw [hγ'] at this
                  exact (Option.some.inj this).symm
                rw [hγe] at hrec
                have hpp : R'[idx].p = pI := by rw [hRi]; exact HPI.out
                rw [show StR g w wr w.heap.size (.pointer (some ⟨ps, 0, none⟩)) prods (.pointer (some ⟨fp, 0, none⟩)) R'[idx] γ = StAt g w wr w.heap.size R'[idx].p R'[idx].m1 R'[idx].m2 R'[idx].no R'[idx].v R'[idx].L R'[idx].n (.pointer (some ⟨ps, 0, none⟩)) prods (.pointer (some ⟨fp, 0, none⟩)) γ from rfl, hpp] at hrec
                have hqg := Lib.hid (Goto_any hg HH.out.1 hG.new hrec (symsG g)[s])
                have HS := Lib.hid (And.intro hG (And.intro hrec (And.intro hstep (And.intro hDs (And.intro hγ' (And.intro hXn hir))))))
                clear hG hrec hstep hDs hγ' hXn hpre hRi hγe
                generalize hX : (symsG g)[s] = X at *
                generalize rowC g γ ((symsG g).take s) (collC g (symsG g) idx) = Γ at *
                go_wp2_with fail
                refine hqg.out.mono ?_
                rintro e w5 ⟨p', m1', m2', v', L', n', rfl, hs5, htr5, hm2B5, hn5⟩
                have hqz := Lib.hid (Size_any hs5.st)
                have H5 := Lib.hid (And.intro hs5 (And.intro htr5 (And.intro hm2B5 hn5)))
                clear hs5 htr5 hm2B5 hn5 hqg d1
                by_cases h0 : 0 < L'.length
                · have hdl : decide (0 < L'.length) = true := by simpa using h0
                  have hG5 := HS.out.1.mono H5.out.2.2.2
                  obtain ⟨gv, cv, rfl, hgvl, hgvB, hcv⟩ := row_ptr hG5.row (by have := HS.out.2.2.2.2.2.2; simp; omega)
                  have hR20 : R'.length ≤ 120 := by rw [hG5.len]; exact HH.out.2.2.2.le hG5.gam
                  have hlen5 : Γ.length = R'.length := hG5.len.symm
                  have hqi := Lib.hid (GetIndex_any hg.toSm hlen5.symm hG5.recs (cell_of_blk hG5.qq 0) (fun j hj => hcv j _ (by rw [List.getElem?_map, List.getElem?_eq_getElem hj]; rfl)) H5.out.1 h0 (by omega))
                  have HL := Lib.hid ((state_live H5.out.1).2 h0)
                  have HLS := Lib.hid hls
                  clear hG5 hcv h0
                  go_wp2_with fail
                  refine hqz.out.mono ?_
                  rintro e w6 ⟨rfl, rfl⟩
                  go_wp2_with fail
                  refine hqi.out.mono ?_
                  rintro e w6 ⟨z, rfl, hz, hn6⟩
                  have hn7 := H5.out.2.2.2.trans hn6
                  have hG6 := HS.out.1.mono hn7
                  have hrec6 := HS.out.2.1.new hn7
                  obtain ⟨nn, ff, hff, hnn, htr⟩ := hG6.tr idx HS.out.2.2.2.2.2.2
                  have hfX : ff X = none := by
                    cases h : ff X with
                    | none => rfl
                    | some u =>
                      have := ((htr γ HS.out.2.2.2.2.1).2 X (by rw [h]; simp)).1
                      unfold Dcs at this
                      rw [if_neg (by omega), if_pos rfl] at this
                      exact absurd this HS.out.2.2.2.2.2.1
                  have hnn2 : nn ≤ 1000 := by
                    have : (Dcs g idx s idx).length ≤ (symsG g).length := by
                      unfold Dcs
                      rw [if_neg (by omega), if_pos rfl]
                      rw [List.length_take]
                      exact Nat.min_le_right _ _
                    omega
                  have hmb := hff.block
                  rcases hz with ⟨rfl, hno⟩ | ⟨k, hk, rfl, hsame⟩
                  · have hs6 := H5.out.1.new hn6
                    have htr6 := H5.out.2.1.new hn6
                    have cq := cell_of_blk hG6.qq 0
                    have fq := free_of_blk hG6.qq 0
                    simp only [List.getElem?_toArray, List.getElem?_cons_zero] at cq
                    have hrow6 := hG6.row
                    have hB6 := hG6.new.size
                    have hb1 : (R'.length + 1) * 8 ≤ 140737488355328 := by omega
                    have hb2 : R'.length + 1 ≤ 140737488355328 := by omega
                    have HT := Lib.hid (And.intro hG6 (And.intro hs6 (And.intro htr6 (And.intro hn7 (And.intro hno hn6)))))
                    clear hG6 hrec6 hff hnn htr hmb hn7 hn6 hfX hno hqi hqz hs6 htr6
                    go_wp2_with (first
                      | (at_builtin; go_must (refine wpList_pushK _ rfl _ _ _ _ rfl T86 w.heap.size (.slice (some ⟨gv, 0, none⟩) R'.length cv) R'.length (R'.map fun r => .pointer (some ⟨r.p, 0, none⟩)) rfl hrow6 [_] rfl rfl _ _ rfl (by simp) hb1 hb2 hB6 ?_)))
                    intro v9 w9 hown9 hgrow9 hat9 hkeep9
                    have hq9 : w9.heap[w2.heap.size + 1]? = some (.cells #[.slice (some ⟨gv, 0, none⟩) R'.length cv] 231 (0, 0)) := (hgrow9.block _ (lt_of_block HT.out.1.qq) (fun e => ownBlock_ne HT.out.1.row HT.out.1.qq (by decide) e.symm)).trans HT.out.1.qq
                    have hp9 := (HT.out.2.1.keep (M := fun _ => False) ((Keep.push HT.out.1.row hgrow9).trans (Keep.set hq9 0 v9)) (fun h => h) (fun h => h)).st.blk
                    obtain ⟨a9, k9, rfl⟩ := owns_slice hown9
                    have cq := cell_of_blk hq9 0
                    have fq := free_of_blk hq9 0
                    have cp := cell_of_blk hp9 0
                    have fp' := free_of_blk hp9 0
                    simp only [List.getElem?_toArray, List.getElem?_cons_zero] at cq cp
                    have H9 := Lib.hid (And.intro hown9 (And.intro hgrow9 (And.intro hkeep9 hp9)))
                    clear hown9 hgrow9 hat9 hkeep9 hq9 hp9 hrow6
                    go_wp2_with fail
                    have hGC : GSt g w w ((w9.setCell ⟨w2.heap.size + 1, 0, none⟩ (.slice a9 (R'.length + 1) k9)).setCell ⟨p', 0, none⟩ (.int .i64 R'.length)) (.pointer (some ⟨ps, 0, none⟩)) prods (.pointer (some ⟨fp, 0, none⟩)) (w2.heap.size + 1) (.slice a9 (R'.length + 1) k9) (R' ++ [⟨p', m1', m2', R'.length, v', L', n'⟩]) (Γ ++ [γ ++ [X]]) (Dcs g idx s) := by
                      obtain ⟨hG6, hs6, htr6, hn7, hno, hn6⟩ := HT.out
                      have hszr := HS.out.1.new.size
                      refine hG6.grow ⟨hs6.st.weak hszr, hs6.n, hs6.nd, hs6.all, hs6.mne⟩ (Nat.le_trans hszr H5.out.2.2.1) htr6 (fun k hk => ?_) ?_ H9.out.1 H9.out.2.1 ?_
                      · have b1 := lt_of_block (HS.out.1.recs k hk).st.blk
                        obtain ⟨f1, hf1, _⟩ := (HS.out.1.recs k hk).st.imap
                        obtain ⟨n2, f2, hf2, _⟩ := HS.out.1.tr k hk
                        have b2 := hf1.lt
                        have b3 := hf2.lt
                        have b4 := hs6.st.pB
                        have b5 := hs6.st.m1B
                        have b6 := H5.out.2.2.1
                        refine ⟨?_, ?_, ?_, ?_⟩ <;> omega
                      · have h1 := GamOk.row (γ := γ) ((symsG g).take (s + 1)) (collC_ok g (symsG g) idx) (List.mem_of_getElem? HGA.out)
                        rw [HS.out.2.2.1, step_new HL.out (fun ⟨γ', hm, hs⟩ => by
                          obtain ⟨k, hk, rfl⟩ := List.getElem_of_mem hm
                          exact hno k (by omega) hs)] at h1
                        exact h1
                      · have := HS.out.2.2.2.2.2.2
                        unfold Dcs
                        rw [if_neg (by omega), if_neg (by omega)]
                    have hir2 : idx < (R' ++ [(⟨p', m1', m2', R'.length, v', L', n'⟩ : Rec)]).length := by have := HS.out.2.2.2.2.2.2; simp; omega
                    have hRe : (R' ++ [(⟨p', m1', m2', R'.length, v', L', n'⟩ : Rec)])[idx] = R'[idx] := List.getElem_append_left HS.out.2.2.2.2.2.2
                    have hrb := (hGC.recs idx hir2).st.blk
                    rw [hRe, hpp] at hrb
                    obtain ⟨nx, fx, hfx, hnx, htx⟩ := hGC.tr idx hir2
                    have hfx2 := hfx
                    rw [hRe] at hfx2
                    have hγ2 : (Γ ++ [γ ++ [X]])[idx]? = some γ := by
                      rw [List.getElem?_append_left (by have := HS.out.2.2.2.2.2.2; omega)]
                      exact HS.out.2.2.2.2.1
                    have hfX : fx X = none := by
                      cases h : fx X with
                      | none => rfl
                      | some u =>
                        have := ((htx γ hγ2).2 X (by rw [h]; simp)).1
                        unfold Dcs at this
                        rw [if_neg (by omega), if_pos rfl] at this
                        exact absurd this HS.out.2.2.2.2.2.1
                    have hnx2 : nx ≤ 1000 := by
                      have : (Dcs g idx s idx).length ≤ (symsG g).length := by
                        unfold Dcs
                        rw [if_neg (by omega), if_pos rfl]
                        rw [List.length_take]
                        exact Nat.min_le_right _ _
                      omega
                    have hqt := Lib.hid (AddTransition_any hrb hfx2 (by omega) hXl hfX R'.length)
                    have HU := Lib.hid (And.intro hGC (And.intro hnx (And.intro htx (And.intro hfx (And.intro hRe hγ2)))))
                    clear hGC hrb hfx hnx htx hfx2 hγ2 hfX hRe cq fq cp fp'
                    refine hqt.out.mono ?_
                    rintro e w8 ⟨rfl, hf8, hg8⟩
                    have H8 := Lib.hid (And.intro hf8 hg8)
                    clear hf8 hg8 hqt
                    go_wp2
                    go_roundg ((symsG g).length - (s + 1))
                    case measure => omega
                    case rel =>
                      obtain ⟨hGC, hnx, htx, hfx, hRe, hγ2⟩ := HU.out
                      obtain ⟨hG6, hs6, htr6, hn7, hno, hn6⟩ := HT.out
                      have hE : EdgeC g (Γ ++ [γ ++ [X]]) idx X R'.length := ⟨γ, γ ++ [X], hγ2, by rw [← hlen5]; simp, HL.out, Same.refl _⟩
                      have hstep := HS.out.2.2.1
                      rw [step_new HL.out (fun ⟨γ', hm, hs⟩ => by
                          obtain ⟨k, hk, rfl⟩ := List.getElem_of_mem hm
                          exact hno k (by omega) hs)] at hstep
                      obtain ⟨h1, ⟨ext, h2⟩, h3⟩ := HQ.out
                      have hle : R.length ≤ R'.length := by rw [h2, List.length_append]; omega
                      refine ⟨s + 1, true, .slice a9 (R'.length + 1) k9, R' ++ [⟨p', m1', m2', R'.length, v', L', n'⟩], by go_num, Nat.succ_le_of_lt HLS.out, rfl, rfl, Lib.hid ⟨?_, ⟨ext ++ [⟨p', m1', m2', R'.length, v', L', n'⟩], by rw [h2, List.append_assoc]⟩, fun j hj => ?_⟩, ?_⟩
                      · have : R.length < (R' ++ [(⟨p', m1', m2', R'.length, v', L', n'⟩ : Rec)]).length := by rw [List.length_append]; simp; omega
                        simpa using this
                      · have q1 := h3 j hj
                        have q2 := hn7.cell q1
                        have q3 := (H9.out.2.2.1 gs j (lt_of_cell q2) (fun _ => by omega)).trans q2
                        have hgp : gs ≠ p' := by
                          have b1 := lt_of_cell q1
                          have b2 := H5.out.1.st.pB
                          omega
                        have q4 := (cell_set_ne w9 (fun e => HGQ.out e.symm) j (.slice a9 (R'.length + 1) k9)).trans q3
                        have q5 := (cell_set_ne (w9.setCell ⟨w2.heap.size + 1, 0, none⟩ (.slice a9 (R'.length + 1) k9)) (fun e => hgp e.symm) j (.int .i64 R'.length)).trans q4
                        rw [← q5]
                        obtain ⟨es, cl, hmb⟩ := hfx.block
                        rw [hRe] at hmb
                        exact H8.out.2.cell_far ⟨gs, j, none⟩ (lt_of_cell q5) (by
                          intro e
                          have e2 : gs = R'[idx].m2 := by simpa using e
                          rw [World.cell?, e2, hmb] at q5
                          cases q5)
                      · rw [hstep]
                        exact hGC.put hir2 hE hnx htx (by rw [hRe]; exact H8.out.1) hfx.block (by rw [hRe]; exact H8.out.2) HS.out.2.2.2.1
                  · have hzk : ((k : Int) == -1) = false := beq_eq_false_iff_ne.2 (by omega)
                    have hqt := Lib.hid (AddTransition_any hrec6.st.blk hff (by omega) hXl hfX k)
                    have HT := Lib.hid (And.intro hG6 (And.intro hnn (And.intro htr (And.intro hmb (And.intro hn7 hsame)))))
                    clear hG6 hrec6 hff hnn htr hmb hn7 hn6 hfX hsame hqi hqz
                    go_wp2_with fail
                    refine hqt.out.mono ?_
                    rintro e w8 ⟨rfl, hf8, hg8⟩
                    have H8 := Lib.hid (And.intro hf8 hg8)
                    clear hf8 hg8 hqt
                    go_wp2
                    go_roundg ((symsG g).length - (s + 1))
                    case measure => omega
                    case rel =>
                      obtain ⟨hG6, hnn, htr, hmb, hn7, hsame⟩ := HT.out
                      have hkΓ := hk
                      rw [hG6.len] at hkΓ
                      have hstep := HS.out.2.2.1
                      rw [step_old ⟨Γ[k], List.getElem_mem hkΓ, hsame⟩] at hstep
                      have hE : EdgeC g Γ idx X k := ⟨γ, Γ[k], HS.out.2.2.2.2.1, List.getElem?_eq_getElem hkΓ, HL.out, hsame⟩
                      refine ⟨s + 1, ag, .slice (some ⟨gv, 0, none⟩) R'.length cv, R', by go_num, Nat.succ_le_of_lt HLS.out, rfl, rfl, Lib.hid ⟨HQ.out.1, HQ.out.2.1, fun j hj => ?_⟩, ?_⟩
                      · have hcj := hn7.cell (HQ.out.2.2 j hj)
                        obtain ⟨es, cl, hmb⟩ := hmb
                        rw [← hcj]
                        exact H8.out.2.cell_far ⟨gs, j, none⟩ (lt_of_cell hcj) (by
                          intro e
                          have e2 : gs = R'[idx].m2 := by simpa using e
                          rw [World.cell?, e2, hmb] at hcj
                          cases hcj)
                      · rw [hstep]
                        exact hG6.put HS.out.2.2.2.2.2.2 hE hnn htr H8.out.1 hmb H8.out.2 HS.out.2.2.2.1
                · have hdl : decide (0 < L'.length) = false := by simpa using h0
                  have HZ := Lib.hid h0
                  have HLS := Lib.hid hls
                  clear h0
                  go_wp2_with fail
                  refine hqz.out.mono ?_
                  rintro e w6 ⟨rfl, rfl⟩
                  go_wp2
                  go_roundg ((symsG g).length - (s + 1))
                  case measure => omega
                  case rel =>
                    obtain ⟨hG, hrec, hstep, hDs, hγ', hXn, hir⟩ := HS.out
                    have hdead : ¬ Live g (γ ++ [X]) := fun h => HZ.out ((state_live H5.out.1).1 h)
                    rw [step_dead hdead] at hstep
                    refine ⟨s + 1, ag, vS, R', by go_num, Nat.succ_le_of_lt HLS.out, rfl, rfl, Lib.hid ⟨HQ.out.1, HQ.out.2.1, fun j hj => H5.out.2.2.2.cell (HQ.out.2.2 j hj)⟩, ?_⟩
                    rw [hstep]
                    exact (hG.mono H5.out.2.2.2).dead hγ' hdead hDs
              · have hse : (symsG g).length ≤ s := by omega
                have HX : Hid (GSt g w w wr (.pointer (some ⟨ps, 0, none⟩)) prods (.pointer (some ⟨fp, 0, none⟩)) (w2.heap.size + 1) vS R' (collC g (symsG g) (idx + 1)) (Dcs g (idx + 1) 0)) := by
                  rw [List.take_of_length_le hse, ← coll_step HGA.out, Dcs_next hse] at hG
                  exact Lib.hid hG
                clear hG hse
                go_wp2
                go_roundg (R.length - (idx + 1))
                case measure => omega
                case rel => exact ⟨idx + 1, idx + 1, ag, vS, R', by go_num, by omega, rfl, by congr 1; omega, rfl, Nat.le_refl _, by omega, HQ, HX.out⟩
        · have hce : c = R.length := by omega
          have HX := Lib.hid (And.intro hG hce)
          have hll : R.length ≤ R'.length := by obtain ⟨ext, h⟩ := HQ.out.2.1; rw [h, List.length_append]; omega
          clear hG hce
          go_wp2
          go_roundg (if ag then 121 - R'.length else 0)
          case measure =>
            rw [HQ.out.1]
            by_cases h : R.length < R'.length
            · simp [h]; omega
            · simp [h]; omega
          case rel =>
            refine ⟨c, ag, vS, R', rfl, rfl, rfl, HX.out.1, by omega, fun e => ?_⟩
            have h1 := HQ.out.1
            have h2 := HX.out.2
            rw [e] at h1
            have : ¬ R.length < R'.length := by simpa using h1.symm
            omega
end Go.Proofs.YtdejcdmgcckmoaaGreatDoor
namespace Go.Proofs.YtdejcdmgcckmoaaGreatDoor
open Go.RowKit Lr

theorem ListI_any {w : World} {q : Nat} {a : Option Addr} {n c : Nat} (hq : w.heap[q]? = some (.cells #[.slice a n c] 231 (0, 0))) :
    Calls Tryz.prog 105 #[.pointer (some ⟨q, 0, none⟩)] w fun e w' => e = .returned (.slice a n c) ∧ w = w' := by
  have c0 := cell_of_blk hq 0
  simp only [List.getElem?_toArray, List.getElem?_cons_zero] at c0
  clear hq
  go_enter Tryz.func105, Tryz.ntmps105
  go_wp2
  go_ret
  exact ⟨rfl, rfl⟩
theorem Built.ctx {w : World} {x p fp : Nat} {g : Gram} (h : Built w x p fp g) : ∃ y prods, w.cell? ⟨x, 0, none⟩ = some (.pointer (some ⟨y, 0, none⟩)) ∧ w.cell? ⟨y, 1, none⟩ = some prods ∧ Ctx g w p fp prods := by
  obtain ⟨B, m1, m2, m3, r2, r4, r5, ns, B', M, sg, n, ⟨x', y, z, e, h1, h2, h3⟩, hs, hf⟩ := h
  cases e
  exact ⟨y, z, h1, h2, ⟨⟨B, m1, m2, m3, r2, r4, r5, ns, hs⟩, ⟨B', M, sg, n, hf⟩, h3⟩⟩

set_option maxRecDepth 20000 in
set_option maxHeartbeats 1000000 in
/-- The package's states. -/
theorem sets_any {g : Gram} (hg : GOk g) (hfew : Few g 120) (v : Value) (w : World) (h : GramAt w v g) :
    Calls Tryz.prog 60 #[v] w fun e w' => ∃ w1 e1 e2 e3 q vS R c, e = .returned vS ∧ New w w1 ∧ GSt g w1 w1 w' e1 e2 e3 q vS R (collC g (symsG g) c) (Dcs g c 0) ∧ DoneC g (symsG g) c := by
  have hq := Lib.hid (built_any v g w h hg.toSm)
  obtain ⟨a, cap, rfl, _⟩ := h
  go_enter Tryz.func60, Tryz.ntmps60
  go_wp2_with fail
  refine hq.out.mono ?_
  rintro e w1 ⟨x, p, fp, rfl, hb, hn⟩
  obtain ⟨y, prods, h1, h2, h3⟩ := hb.ctx
  have hq2 := Lib.hid (GetItemSets_any hg hfew h1 h2 h3)
  have HN := Lib.hid hn
  clear hb hn h1 h2 h3 hq
  go_wp2_with fail
  refine hq2.out.mono ?_
  rintro e w2 ⟨q, vS, R, c, rfl, hG, hd⟩
  obtain ⟨a2, c2, rfl⟩ := owns_slice hG.row
  have hq3 := Lib.hid (ListI_any hG.qq)
  have HG := Lib.hid (And.intro hG hd)
  clear hG hd hq2
  go_wp2_with fail
  refine hq3.out.mono ?_
  rintro e w3 ⟨rfl, rfl⟩
  go_wp2
  go_ret
  exact ⟨w1, _, _, _, q, _, R, c, rfl, HN.out, HG.out.1, HG.out.2⟩
end Go.Proofs.YtdejcdmgcckmoaaGreatDoor

/- The reference: closing items. -/
import Derived.Test.YtdejcdmgcckmoaaGreatDoorYX
namespace Go.Proofs.YtdejcdmgcckmoaaGreatDoor
open Go.RowKit Go.Sort Lr

/-- What the reference's closing gives. -/
structure ClosedL (g : Gram) (γ : List Str) (l : List Itm) : Prop where
  nodup : l.Nodup
  mem : ∀ x, x ∈ l ↔ Vld g γ x
  ord : l.Pairwise fun x y => cmpItm x y < 0
set_option maxRecDepth 20000 in
set_option maxHeartbeats 1000000 in
theorem closed_any {g : Gram} (hg : GOk g) {γ : List Str} {l : List Itm} (hb : Base g γ l) (v vl : Value) (w : World) (h : GramAt w v g) (hl : ItmsAt w vl l) :
    Calls Tryz.prog 67 #[v, vl] w fun e w' => ∃ v' L, e = .returned v' ∧ Own3 itm3 101 w' w.heap.size v' L ∧ ClosedL g γ L ∧ New w w' := by
  have hm := hg.toSm
  have hll : l.length ≤ 3185 := items_le hm.len hm.body hb.1 fun i hi => (hb.2 i).2 (.base hi)
  have HH := Lib.hid (And.intro h hl)
  have HB := Lib.hid hb
  obtain ⟨a, cap, rfl⟩ := h.slice
  have hglen := hm.len
  clear h hl hb
  go_enter Tryz.func67, Tryz.ntmps67
  go_wp2_with fail
  refine (Heads_any _ g w HH.out.1 (by omega)).mono ?_
  rintro e w1 ⟨vH, rfl, hoH, hn1⟩
  have hq1 := Lib.hid (Firsts_any _ g w1 (HH.out.1.new hn1) hg)
  obtain ⟨aH, cH, rfl⟩ := owns_slice hoH
  have H1 := Lib.hid (And.intro hoH.at hn1)
  clear hoH hn1
  go_wp2_with fail
  refine hq1.out.mono ?_
  rintro e w2 ⟨vF, Ls, rfl, hMat, hFo, hn2⟩
  obtain ⟨aF, cF, rfl⟩ := hMat.slice
  have hn02 := H1.out.2.trans hn2
  have hq2 := Lib.hid (CloneI_any _ l w2 (HH.out.2.new hn02) (by omega))
  have H2 := Lib.hid (And.intro (H1.out.1.new hn2) (And.intro hMat (And.intro hFo hn02)))
  have hsz02 := hn02.size
  clear hq1 hMat hn2 hn02 hFo H1
  obtain ⟨al, cl, rfl⟩ := HH.out.2.slice
  go_wp2_with fail
  refine hq2.out.mono ?_
  rintro e w3 ⟨vO, rfl, hO, hn3⟩
  have HO := Lib.hid (And.intro hO hn3)
  clear hq2 hO hn3
  go_wp2_with fail
  go_loopg [7, 8] 3185 (fun gk u7 u8 wr => ∃ (k : Nat) (out : List Itm), k ≤ out.length ∧ gk = 3185 - k ∧ u8 = .int .i64 k ∧ Own3 itm3 101 wr w2.heap.size u7 out ∧ ClsIn g γ l out k ∧ out.length ≤ 3185 ∧ New w2 wr)
  case atStart => exact ⟨0, l, Nat.zero_le _, rfl, rfl, HO.out.1, ClsIn.init HB.out, hll, HO.out.2⟩
  case round =>
    clear HO
    obtain ⟨k, out, hk, rfl, rfl, hO, hC, hol, hn⟩ := hrel
    by_cases hlt : k < out.length
    · obtain ⟨aO, cO, rfl⟩ := owns_slice hO
      obtain ⟨ob, oo, i, e, hi, h1, h2, h3⟩ := (Row3.of_owns hO).elemX hlt
      cases e
      have hv : Vld g γ i := hC.sub i (List.mem_of_getElem? hi)
      have hq := Lib.hid (next_any (HH.out.1.new (H2.out.2.2.2.trans hn)) hm (prdOk_vld hv))
      have hcap : out.length ≤ cO := by
        obtain ⟨_, _, e, hc, _⟩ := Row3.of_owns hO
        cases e; exact hc
      have HX := Lib.hid (And.intro hO (And.intro hC (And.intro hi (And.intro hv hn))))
      have hsz := hn.size
      simp only [itm3] at h1 h2 h3
      clear hO hC hi hn
      go_wp2_with fail
      refine hq.out.mono ?_
      rintro e w4 ⟨rfl, hn4⟩
      have hcell4 := And.intro (hn4.cell h1) (And.intro (hn4.cell h2) (hn4.cell h3))
      have HC4 := Lib.hid (And.intro hcell4 hn4)
      clear h1 h2 h3 hcell4 hn4 hq
      cases hr : i.rest g with
      | nil =>
        have hns : nextS g i = [] := by unfold nextS; rw [hr]; rfl
        rw [hns]
        have hC' := Lib.hid (HX.out.2.1.next hlt fun j hj => absurd hj (no_succ (fun B δ e => by
          have e0 := (List.getElem?_eq_some_iff.1 HX.out.2.2.1).2
          rw [e0] at e
          rw [hr] at e; cases e) j))
        clear hr hns
        go_wp2
        go_roundg (3185 - (k + 1))
        case measure => omega
        case rel => exact ⟨k + 1, out, by omega, rfl, by go_num, ownsRow_new HX.out.1 HC4.out.2, hC'.out, hol, HX.out.2.2.2.2.trans HC4.out.2⟩
      | cons B δ =>
        have hns : nextS g i = B := by unfold nextS; rw [hr]; rfl
        rw [hns]
        have hBok := rest_syms hm (i := i) B (by rw [hr]; exact List.mem_cons_self ..)
        have hB0 : 0 < B.length := by
          cases B with
          | nil => exact absurd hBok (by decide)
          | cons c s => simp
        have hBe : (B == ([] : List UInt8)) = false := by
          rw [beq_eq_false_iff_ne]; intro e; rw [e] at hB0; simp at hB0
        have hgr := Lib.hid (fun W => great_any B W hB0)
        have hgh := great_head hm hr
        cases hG : isHead g B with
        | false =>
          rw [hG] at hgh
          rw [hgh] at hgr
          have hC' := Lib.hid (HX.out.2.1.next hlt fun j hj => absurd hj (no_succ (fun B' δ' e => by
            have e0 := (List.getElem?_eq_some_iff.1 HX.out.2.2.1).2
            rw [e0, hr] at e; cases e; exact hG) j))
          clear hr hns hG hgh hBok hB0
          go_wp2_with (go_at_call 43; refine (hgr.out _).mono ?_; rintro e w' ⟨rfl, rfl⟩)
          go_roundg (3185 - (k + 1))
          case measure => omega
          case rel => exact ⟨k + 1, out, by omega, rfl, by go_num, ownsRow_new HX.out.1 HC4.out.2, hC'.out, hol, HX.out.2.2.2.2.trans HC4.out.2⟩
        | true =>
          rw [hG] at hgh
          rw [hgh] at hgr
          have hrg := rest_get hr
          have hδ := hrg.2.1
          have hdl := hrg.1.1
          clear hrg
          have hdl1 : i.dot + 1 ≤ (Lr.body g i.prod).length := hdl
          have hb4 := body_len hm i.prod
          have hqb := Lib.hid (fun W (hW : New w4 W) => body_any (HH.out.1.new ((H2.out.2.2.2.trans (HX.out.2.2.2.2.trans HC4.out.2)).trans hW)) hm.len hm.pos (prdOk_vld HX.out.2.2.2.1))
          have HRR := Lib.hid (And.intro hr (And.intro hG (And.intro hδ hdl1)))
          have kw : IntKind.i64.wrap ((i.dot : Int) + 1) = (i.dot : Int) + 1 := by rw [IntKind.wrap_i64]; omega
          have hlen4 : δ.length ≤ 9 := by rw [hδ, List.length_drop]; omega
          obtain ⟨⟨h1, h2, h3⟩, hn4⟩ := HC4.out
          clear hr hns hG hgh hBok hdl hn4
          generalize hbd : Lr.body g i.prod = bd at *
          have HDE := Lib.hid hδ
          clear hδ
          have HBD := Lib.hid hbd
          clear hbd
          go_wp2_with (go_at_call 43; refine (hgr.out _).mono ?_; rintro e w' ⟨rfl, rfl⟩)
          go_cut [10] from 41 to 63 (fun u10 wx => (∃ a c, u10 = .slice a (δ.length + 1) c ∧ StrsAt wx (.slice a (δ.length + 1) c) (δ ++ [i.look])) ∧ New w4 wx)
          case first =>
           go_region_held3 (fun w' => w'.cell? ⟨ob, oo + k * 3, none⟩ = some (.int .i64 (prodI i.prod)) ∧ w'.cell? ⟨ob, oo + k * 3 + 1, none⟩ = some (.int .i64 i.dot) ∧ w'.cell? ⟨ob, oo + k * 3 + 2, none⟩ = some (sv i.look))
            (first
              | exact ⟨h1, h2, h3⟩
              | exact ⟨(((New.refl w4).drewN 1).alloc _).cell h1, (((New.refl w4).drewN 1).alloc _).cell h2, (((New.refl w4).drewN 1).alloc _).cell h3⟩
              | exact ⟨(hn47).cell h1, (hn47).cell h2, (hn47).cell h3⟩
              | exact ⟨(hn46.alloc _).cell h1, (hn46.alloc _).cell h2, (hn46.alloc _).cell h3⟩
              | exact ⟨(hn46).cell h1, (hn46).cell h2, (hn46).cell h3⟩
              | exact ⟨(hn45.alloc _).cell h1, (hn45.alloc _).cell h2, (hn45.alloc _).cell h3⟩
              | exact ⟨(hn45).cell h1, (hn45).cell h2, (hn45).cell h3⟩
              | go_keep)
            (first
              | (go_at_call 112; refine (hqb.out _ (by first | exact (New.refl w4).drewN 1 | exact ((New.refl w4).drewN 1).alloc _)).mono ?_; rintro e w5 ⟨a5, c5, rfl, hs5, hn5⟩; obtain ⟨a6, c6, hrun, hs6⟩ := slice_dropE hs5 (d := i.dot) hdl1 HDE.out; have hn45 : New w4 w5 := by first | exact ((New.refl w4).drewN 1).trans hn5 | exact (((New.refl w4).drewN 1).alloc _).trans hn5)
              | (go_at_call 53; refine (CloneS_any _ _ _ (by first | exact hs6 | exact hs6.new ((New.refl _).alloc _)) (Nat.le_trans hlen4 (by omega))).mono ?_; rintro e w6 ⟨v6, rfl, hs7, hn6⟩; have hn46 : New w4 w6 := by first | exact hn45.trans hn6 | exact (hn45.alloc _).trans hn6)
              | (refine step_push (by rfl) _ _ _ _ (by rfl) T24 w4.heap.size v6 _ _ (by rfl) (by first | exact ownsRow_mono hs7 (by have := hn45.size; simp <;> omega) | exact (ownsRow_mono hs7 (by have := hn45.size; simp <;> omega)).alloc _) [sv i.look] (by rfl) (by rfl) _ _ (by rfl) (0, 0) (by first | exact heap_alloc_new _ _ | exact hn6.heap (heap_alloc_new _ _) | exact hn6.heap (hn5.heap (heap_alloc_new _ _))) (by omega) (by omega) (by have := hn46.size; simp <;> omega) ?_; intro g0 cap1 w7 hown7 hgrow hat; have hn47 : New w4 w7 := by first | exact Below.push hn46 (ownsRow_mono hs7 (by have := hn45.size; simp <;> omega)) hgrow hn46.size | exact Below.push (hn46.alloc _) ((ownsRow_mono hs7 (by have := hn45.size; simp <;> omega)).alloc _) hgrow (by have := hn46.size; simp; omega)))
           all_goals
            have hrest : StrsAt w7 (.slice (some ⟨g0, 0, none⟩) (δ.length + 1) cap1) (δ ++ [i.look]) := (Strs.push hown7).at
            have HRE := Lib.hid (And.intro hrest hn47)
            clear hown7 hgrow hat hn47 hrun hs5 hs6 hs7 hn5 hn6 hn45 hn46 hrest
            go_wp2_with fail
            go_meet
            case rel => exact ⟨⟨_, _, rfl, HRE.out.1⟩, HRE.out.2⟩
          case rest =>
            obtain ⟨⟨ar, cr, rfl, hrest⟩, hn4c⟩ := hcut
            have hn27 : New w2 wc := (HX.out.2.2.2.2.trans HC4.out.2).trans hn4c
            have hF := firstOf_any g (w := wc) (H2.out.1.new hn27) (H2.out.2.1.new hn27) hrest (fun s => by rw [Bool.eq_iff_iff, has_iff, headsF_mem]) H2.out.2.2.1.len (by have := headsF_len g; omega) (by rw [List.length_append]; simp; omega) (fun r hr => by
              have h1 := nodup_le (H2.out.2.2.1.nodup r hr) (H2.out.2.2.1.inU r hr)
              have h2 := firstU_len hm
              omega)
            have HF := Lib.hid hF
            have HN7 := Lib.hid (And.intro hn27 (ownsRow_new HX.out.1 (HC4.out.2.trans hn4c)))
            clear hF hrest hn27 hn4c h1 h2 h3
            go_wp2_with fail
            refine HF.out.mono ?_
            rintro e w8 ⟨vR, R, rfl, hsR, hRm, hRl, hn8⟩
            obtain ⟨aR, cR, rfl⟩ := owns_slice hsR
            have hsz7 := HN7.out.1.size
            have hlk := HX.out.2.2.2.1.look
            have hRiff : ∀ c, c ∈ R ↔ Fst g δ i.look c := looks_iff hm H2.out.2.2.1 (fun s hs e => by
              have h1 := rest_syms hm (i := i) s (by rw [HRR.out.1]; exact List.mem_cons_of_mem _ hs)
              rw [e] at h1; exact absurd h1 (by decide)) (vld_term hm HX.out.2.2.2.1) (look_ne hm hlk) hRm
            have hJ0 : ClsJ g γ l out k i B R 0 0 := ClsJ.init HX.out.2.1 HX.out.2.2.1
            have H8 := Lib.hid (And.intro (ownsRow_mono hsR hsz7) (And.intro hRiff (And.intro (ownsRow_new HN7.out.2 hn8) (And.intro (HN7.out.1.trans hn8) hJ0))))
            clear hsR hRm hn8 hRiff hJ0 hlk
            go_wp2_with fail
            go_loopg [7, 68] R.length (fun gj u7 u68 wr => ∃ (j : Nat) (out' : List Itm), j ≤ R.length ∧ gj = R.length - j ∧ u68 = .int .i64 j ∧ Own3 itm3 101 wr w2.heap.size u7 out' ∧ Strs wr w2.heap.size (.slice aR R.length cR) R ∧ ClsJ g γ l out' k i B R j 0 ∧ New w2 wr)
            case atStart => exact ⟨0, out, Nat.zero_le _, rfl, rfl, H8.out.2.2.1, H8.out.1, H8.out.2.2.2.2, H8.out.2.2.2.1⟩
            case round =>
              obtain ⟨j, out', hj, rfl, rfl, hO', hS', hJ, hn'⟩ := hrel
              by_cases hjl : j < R.length
              · obtain ⟨rb, ro, e, hrc⟩ := hS'.at.elem hjl
                cases e
                obtain ⟨gb, go, ga, gc, rfl, _⟩ := (HH.out.1.new (H2.out.2.2.2.trans hn')).elem hm.pos
                have HJ := Lib.hid (And.intro hO' (And.intro hS' (And.intro hJ hn')))
                clear hO' hS' hJ hn'
                go_wp2_with fail
                clear hrc
                go_loopg [7, 74] g.length (fun gn u7 u74 wr => ∃ (n : Nat) (out' : List Itm), n ≤ g.length ∧ gn = g.length - n ∧ u74 = .int .i64 n ∧ Own3 itm3 101 wr w2.heap.size u7 out' ∧ Strs wr w2.heap.size (.slice (some ⟨rb, ro, none⟩) R.length cR) R ∧ ClsJ g γ l out' k i B R j n ∧ New w2 wr)
                case atStart => exact ⟨0, out', Nat.zero_le _, rfl, rfl, HJ.out.1, HJ.out.2.1, HJ.out.2.2.1, HJ.out.2.2.2⟩
                case round =>
                  clear HJ
                  obtain ⟨n, out'', hn, rfl, rfl, hO', hS', hJ, hn'⟩ := hrel
                  by_cases hnl : n < g.length
                  · obtain ⟨gb2, go2, a', cap', e, h1, h2, h3⟩ := (HH.out.1.new (H2.out.2.2.2.trans hn')).elem hnl
                    cases e
                    obtain ⟨aO2, cO2, rfl⟩ := owns_slice hO'
                    have hol2 : out''.length ≤ 3185 := items_le hm.len hm.body hJ.cls.nodup hJ.cls.sub
                    have hcn : ∀ W, New wr W → Calls Tryz.prog 113 #[.slice aO2 out''.length cO2, .agg #[.int .i64 (n : Int), .int .i64 0, sv R[j]]] W fun e w' => e = .returned (.bool (decide ((⟨some n, 0, R[j]⟩ : Itm) ∈ out''))) ∧ New W w' :=
                      fun W hW => Contains_itm ((Row3.of_owns hO').new hW) (by omega) (⟨some n, 0, R[j]⟩ : Itm)
                    have hR0 := (H8.out.2.1 R[j]).1 (List.getElem_mem hjl)
                    have hsz' := hn'.size
                    have HJ := Lib.hid (And.intro hO' (And.intro hS' (And.intro hJ (And.intro hn' hR0))))
                    have HCN := Lib.hid hcn
                    have hgn : g[n]? = some g[n] := List.getElem?_eq_getElem hnl
                    have HGN := Lib.hid hgn
                    have hcapg := HH.out.1.cap.2
                    clear h3 hO' hS' hJ hn' hR0 hcn hgn
                    by_cases hA : g[n].1 = B
                    · have hA2 : (g[n].1 == B) = true := by rw [hA]; simp
                      have HA := Lib.hid hA
                      clear hA
                      by_cases hmem : (⟨some n, 0, R[j]⟩ : Itm) ∈ out''
                      · have hcn := HCN.out
                        rw [decide_eq_true hmem] at hcn
                        have HCN2 := Lib.hid hcn
                        have hJ' := Lib.hid (HJ.out.2.2.1.skip fun _ _ _ => hmem)
                        clear hmem hcn
                        go_wp2_with (go_at_call 113; refine (HCN2.out _ (((New.refl wr).alloc _).alloc _)).mono ?_; rintro e w9 ⟨rfl, hn9⟩)
                        have hnr9 : New wr w9 := (((New.refl wr).alloc _).alloc _).trans hn9
                        go_roundg (g.length - (n + 1))
                        case measure => omega
                        case rel => exact ⟨n + 1, out'', by omega, rfl, by go_num, ownsRow_new HJ.out.1 hnr9, ownsRow_new HJ.out.2.1 hnr9, hJ'.out, HJ.out.2.2.2.1.trans hnr9⟩
                      · have hcn := HCN.out
                        rw [decide_eq_false hmem] at hcn
                        have HCN2 := Lib.hid hcn
                        have hJ' := Lib.hid (HJ.out.2.2.1.add hjl HRR.out.1 (b := g[n].2) (by rw [HGN.out, ← HA.out]) HJ.out.2.2.2.2 hmem)
                        clear hmem hcn
                        have hownW := Lib.hid (fun W' (hW : New wr W') => ownsRow_new HJ.out.1 hW)
                        go_wp2_with (first | (go_at_call 113; refine (HCN2.out _ (((New.refl wr).alloc _).alloc _)).mono ?_; rintro e w9 ⟨rfl, hn9⟩; have hnr9 : New wr w9 := (((New.refl wr).alloc _).alloc _).trans hn9; have hb9 := And.intro (hn9.cell (show World.cell? _ ⟨wr.heap.size + 1, 0, none⟩ = some (.int .i64 (n : Int)) by simp)) (And.intro (hn9.cell (show World.cell? _ ⟨wr.heap.size + 1, 1, none⟩ = some (.int .i64 0) by simp)) (hn9.cell (show World.cell? _ ⟨wr.heap.size + 1, 2, none⟩ = some (sv R[j]) by simp)))) | (at_builtin; go_must (refine wpList_push _ rfl _ _ _ _ rfl T53 w2.heap.size (.slice aO2 out''.length cO2) out''.length (out''.flatMap (enc3 itm3)) rfl (hownW.out _ hnr9) [_, _, _] rfl rfl _ _ rfl (by first | rfl | simp) (by omega) (by omega) (by have := hnr9.size; omega) ?_)))
                        intro v' w10 hown10 hgrow hne hat
                        have hown9 := hownW.out _ hnr9
                        have hown2 : Own3 itm3 101 w10 w2.heap.size v' (out'' ++ [(⟨some n, 0, R[j]⟩ : Itm)]) := Own3.push (e := itm3) (x := (⟨some n, 0, R[j]⟩ : Itm)) hown10
                        have hs9 := ownsRow_new HJ.out.2.1 hnr9
                        have hs10 := World.ownsRow.kept hs9 hgrow (ownBlock_ne_row hs9 hown9 (by decide))
                        have hn10 : New w2 w10 := Below.push (HJ.out.2.2.2.1.trans hnr9) hown9 hgrow (HJ.out.2.2.2.1.trans hnr9).size
                        have HZ := Lib.hid (And.intro hown2 (And.intro hs10 hn10))
                        obtain ⟨av, cv, rfl⟩ := owns_slice hown10
                        clear hown9 hown2 hs9 hs10 hn10 hgrow hne hat hown10 hb9
                        go_wp2
                        go_roundg (g.length - (n + 1))
                        case measure => omega
                        case rel => exact ⟨n + 1, _, by omega, rfl, by go_num, HZ.out.1, HZ.out.2.1, hJ'.out, HZ.out.2.2⟩
                    · have hA2 : (g[n].1 == B) = false := by rw [beq_eq_false_iff_ne]; exact hA
                      have hJ' := Lib.hid (HJ.out.2.2.1.skip fun _ b hb => by
                        rw [HGN.out] at hb
                        exact absurd (congrArg Prod.fst (Option.some.inj hb)) hA)
                      clear hA
                      go_wp2
                      have hnr9 : New wr ((wr.alloc (.cells #[sv g[n].1, .slice a' g[n].2.length cap'] 67)).alloc (.cells #[.int .i64 (n : Int), .int .i64 0, sv R[j]] 101)) := ((New.refl wr).alloc _).alloc _
                      go_roundg (g.length - (n + 1))
                      case measure => omega
                      case rel => exact ⟨n + 1, out'', by omega, rfl, by go_num, ownsRow_new HJ.out.1 hnr9, ownsRow_new HJ.out.2.1 hnr9, hJ'.out, HJ.out.2.2.2.1.trans hnr9⟩
                  · have hJ2 := Lib.hid (hJ.nextLook (by omega))
                    clear hJ
                    go_wp2
                    go_roundg (R.length - (j + 1))
                    case measure => omega
                    case rel => exact ⟨j + 1, out'', by omega, rfl, by go_num, hO', hS', hJ2.out, hn'⟩
              · have hC' := Lib.hid (hJ.next (by omega) HRR.out.1 fun c hc => (H8.out.2.1 c).2 hc)
                have hkl := (List.getElem?_eq_some_iff.1 hJ.at_).1
                have hol' : out'.length ≤ 3185 := items_le hm.len hm.body hJ.cls.nodup hJ.cls.sub
                clear hJ
                go_wp2
                go_roundg (3185 - (k + 1))
                case measure => omega
                case rel => exact ⟨k + 1, out', by omega, rfl, by go_num, hO', hC'.out, hol', hn'⟩
    · have hall := hC.all HB.out (by omega)
      have hsm : ∀ i ∈ out, SmallI i := fun i hi => by
        have hv := (hall.2 i).1 hi
        constructor
        · cases hp : i.prod with
          | none => simp [prodI]
          | some n => have := hv.lt hp; simp only [prodI]; omega
        · have h1 := hv.rest_le
          have h2 := body_len hm i.prod
          omega
      have hq := Lib.hid (SortLess hO hall.1 (by omega) hsm)
      have HZ := Lib.hid (And.intro hO (And.intro hall hn))
      obtain ⟨aO, cO, rfl⟩ := owns_slice hO
      clear hO hall hsm hC hn
      go_wp2_with fail
      refine hq.out.mono ?_
      rintro e w5 ⟨rfl, L', hp, hs, hown5, hg5⟩
      obtain ⟨hO, hall, hn⟩ := HZ.out
      have hn5 : New w2 w5 := Below.push hn hO hg5 hn.size
      have HF := Lib.hid (And.intro (ownsRow_mono hown5 hsz02) (And.intro (⟨hp.nodup_iff.2 hall.1, fun x => (hp.mem_iff).trans (hall.2 x), hs⟩ : ClosedL g γ L') (H2.out.2.2.2.trans hn5)))
      clear hown5 hg5 hO hall hn hn5 hp hs hq
      go_wp2
      go_ret
      exact ⟨_, L', rfl, HF.out⟩
end Go.Proofs.YtdejcdmgcckmoaaGreatDoor

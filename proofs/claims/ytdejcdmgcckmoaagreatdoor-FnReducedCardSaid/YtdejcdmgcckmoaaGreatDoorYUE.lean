/- The package: Accepts. -/
import Derived.Test.YtdejcdmgcckmoaaGreatDoorYUD
namespace Go.Proofs.YtdejcdmgcckmoaaGreatDoor
open Go.RowKit Go.Sort Lr

theorem results_three {fn : Func} {t u v : Tmp} (h : fn.results = #[.tmp t, .tmp u, .tmp v]) (tmps : Array Value) (P : Program) (w : World) :
    (results fn tmps).run P w = .ok (.tuple #[tmps.getD t undef, tmps.getD u undef, tmps.getD v undef]) w := by
  simp [results, h]
/-- A row of one number that has just been made. -/
theorem own_one (w : World) (n : Nat) : OwnK nat1 1 3 (w.alloc (.cells #[.int .i64 (n : Int)] 3)) w.heap.size (.slice (some ⟨w.heap.size, 0, none⟩) 1 1) [n] :=
  ⟨rfl, .inr ⟨w.heap.size, 1, #[.int .i64 (n : Int)], rfl, Nat.le_refl _, heap_alloc_new w _, Nat.le_refl _, by unfold maxLen; omega, rfl, rfl⟩⟩
set_option maxRecDepth 20000 in
set_option maxHeartbeats 4000000 in
theorem Accepts_any {g : Gram} (hg : GOk g) (hfew : Few g 120) (hs : Single g) (hL : Lite g) {word : List Str} (hw : WordOk g word) (v vw : Value) (w : World) (h : GramAt w v g) (hwd : StrsAt w vw word) (htab : TabW w) :
    Calls Tryz.prog 29 #[v, vw, .int .i64 10000] w fun e w' => ∃ (is : Bool) (vR : Value) (ps : List Nat), e = .returned (.tuple #[.bool is, vR, .bool true]) ∧ OwnK nat1 1 3 w' w.heap.size vR ps ∧ (is = true ↔ ∃ n, D g n [Lr.start g] word) ∧ (is = true → Der g [Lr.start g] ps.reverse word) ∧ ps.length ≤ 10000 ∧ New w w' := by
  have hm := hg.toSm
  have hN := noStop_single hs
  have hq := Lib.hid (right_any v g w h hm)
  have HH := Lib.hid (And.intro h (And.intro hwd htab))
  have HW := Lib.hid hw
  have hwl := hw.len
  obtain ⟨a, cap, rfl⟩ := h.slice
  obtain ⟨aw, cw, rfl⟩ := hwd.slice
  clear h hwd htab hw
  go_enter Tryz.func29, Tryz.ntmps29
  go_wp2_with (go_at_call 49; refine hq.out.mono ?_; rintro e w1 ⟨rfl, hn1⟩; have hq2 := Lib.hid (terms_any _ g w1 (HH.out.1.new hn1) hm))
  go_wp2_with (go_at_call 76; refine hq2.out.mono ?_; rintro e w2 ⟨vT, rfl, hST, hT, hn2⟩)
  have HN2 := Lib.hid (hn1.trans hn2)
  have HT := Lib.hid (And.intro hST.at hT)
  obtain ⟨aT, cT, eT⟩ := owns_slice hST
  subst eT
  clear hST hT hn1 hn2 hq hq2
  go_wp2
  go_loopg [40] word.length (fun gk u40 wr => ∃ k : Nat, k ≤ word.length ∧ gk = word.length - k ∧ u40 = .int .i64 k ∧ Hid (New w2 wr))
  case atStart => exact ⟨0, Nat.zero_le _, rfl, rfl, Lib.hid (New.refl w2)⟩
  case round =>
    obtain ⟨k, hk, rfl, rfl, hn⟩ := hrel
    by_cases hlt : k < word.length
    · obtain ⟨b, o, e, h4⟩ := (HH.out.2.1.new (HN2.out.trans hn.out)).elem hlt
      cases e
      have hwk := HW.out.trm _ (List.getElem_mem hlt)
      have hne : (word[k] == [226, 144, 154]) = false := beq_eq_false_iff_ne.2 (letters_ne hwk.1).2.1
      have hqc := Lib.hid (Contains_str _ (trmF g) word[k] wr (HT.out.1.new hn.out) (by have := trm_len hm HT.out.2; omega))
      have hin : has (trmF g) word[k] = true := has_iff.2 ((HT.out.2.mem _).2 (.inr (HW.out.mem _ (List.getElem_mem hlt))))
      rw [hin] at hqc
      have hlen4 := symbolOk_le hwk.1
      have HN := Lib.hid hn.out
      clear hn hwk hin
      generalize word[k] = s at *
      go_wp2_with (go_at_call 15; refine hqc.out.mono ?_; rintro e w' ⟨rfl, rfl⟩)
      go_roundg (word.length - (k + 1))
      case measure => omega
      case rel => exact ⟨k + 1, by omega, rfl, by go_num, HN⟩
    · have HN := Lib.hid (HN2.out.trans hn.out)
      clear hn
      have hq3 := Lib.hid (sets_any hg hfew _ wr (HH.out.1.new HN.out))
      go_wp2_with fail
      refine hq3.out.mono ?_
      rintro e w3 ⟨wb, e1, e2, e3, q, vS, R, c, rfl, hnb, hG, hd⟩
      clear hq3
      have hRl : R.length ≤ 120 := by rw [hG.len]; exact hfew.le hG.gam
      have hDk : ∀ k, k < R.length → (∀ X, SymIn g X → X ∈ Dcs g c 0 k) ∧ (Dcs g c 0 k).length ≤ 1000 := fun k hk => by
        have hkc : k < c := by rw [hG.len] at hk; unfold DoneC at hd; omega
        rw [Dcs_zero]
        simp only [if_pos hkc]
        exact ⟨fun X hX => symsG_all hX, types_len hm⟩
      have hnw3 : New w w3 := (HN.out.trans hnb).trans hG.new
      have hq4 := Lib.hid (noStops_any hm hN hG (by omega))
      have HG := Lib.hid (And.intro hG (And.intro hd (And.intro hDk hnw3)))
      obtain ⟨aS, cS, eS⟩ := owns_slice hG.row
      subst eS
      clear hG hd hDk hnw3 hnb
      go_wp2_with (go_at_call 77; refine hq4.out.mono ?_; rintro e w4 ⟨rfl, hn4⟩; have hqc := Lib.hid (CloneS_any _ word (w4.alloc (.cells #[.int .i64 0] 3)) ((HH.out.2.1.new ((HG.out.2.2.2.trans hn4))).new ((New.refl w4).alloc _)) (by omega)))
      go_wp2_with (first | (go_at_call 53; refine hqc.out.mono ?_; rintro e w5 ⟨vC, rfl, hSC, hn5⟩) | (at_builtin; go_must (refine wpList_push _ rfl _ _ _ _ rfl T24 (w4.alloc (.cells #[.int .i64 0] 3)).heap.size _ word.length (word.map sv) rfl hSC [_] rfl rfl _ _ rfl (by first | rfl | simp) (by omega) (by omega) hn5.size ?_)))
      intro v6 w6 hown6 hgrow6 hne6 hat6
      have hO1 : OwnK nat1 1 3 w5 w4.heap.size (.slice (some ⟨w4.heap.size, 0, none⟩) 1 1) [0] := ownsRow_new (own_one w4 0) hn5
      have hn45 : New w4 w5 := ((New.refl w4).alloc _).trans hn5
      have heof : (word ++ [eofS]).map sv = word.map sv ++ [.string ⟨#[226, 144, 154]⟩] := by rw [List.map_append]; rfl
      have hO6 : AccO w4 w6 (.slice (some ⟨w4.heap.size, 0, none⟩) 1 1) (.slice none 0 0) v6 [0] [] (word ++ [eofS]) :=
        ⟨World.ownsRow.kept hO1 hgrow6 (ownBlock_ne_row hO1 hSC (by decide)), OwnK.nil, (fun b _ e => by cases e), RsO.of_own (B := (w4.alloc (.cells #[.int .i64 0] 3)).heap.size) (n := word.length + 1) (by rw [heof]; simpa using hown6) (by simp), Below.push hn45 (owns_base hSC (by simp)) hgrow6 (by have := hn5.size; simp at this; omega)⟩
      have HA := Lib.hid hO6
      have hn4' := Lib.hid (HG.out.2.2.2.trans hn4)
      have hG4 := Lib.hid (HG.out.1.mono hn4)
      obtain ⟨aR, cR, eR⟩ := owns_slice hown6
      subst eR
      clear hown6 hgrow6 hne6 hat6 hO1 hn45 hO6 hSC hn5 hqc hq4
      obtain ⟨Γ, hΓ⟩ : ∃ Γ, Γ = collC g (symsG g) c := ⟨_, rfl⟩
      have hP0 : Prs g Γ word [] (word ++ [eofS]) [] [0] := Prs.init (by rw [hΓ]; exact HG.out.1.gam) word
      have HP0 := Lib.hid hP0
      have HΓ := Lib.hid hΓ
      clear hΓ hP0
      go_wp2
      go_loopg [2, 13, 14, 15] 10000 (fun gk u2 u13 u14 u15 wr => ∃ (s : Nat) (γ raw : List Str) (ps st : List Nat), gk = s ∧ u2 = .int .i64 s ∧ s + (word.length + 1 - raw.length) + ps.length = 10000 ∧ Hid (Prs g Γ word γ raw ps st) ∧ Hid (AccO w4 wr u14 u13 u15 st ps raw))
      case atStart => exact ⟨10000, [], _, [], [0], rfl, rfl, by simp, HP0, HA⟩
      case round =>
        obtain ⟨s, γ, raw, ps, st, hgk, rfl, hcnt, HP, HO⟩ := hrel
        have hgk := hgk.symm
        subst hgk
        obtain ⟨k, δ, hk, hδ, hsame⟩ := HP.out.top
        obtain ⟨t, raw', hraw, ht, hr'⟩ := HP.out.head HW.out
        subst hraw
        have hst := HP.out.stl HW.out
        have hpsl := HP.out.le
        have hwl2 := HW.out.len
        have hs0 : 0 < s := by (simp only [List.length_cons] at hcnt hst; omega)
        obtain ⟨b1, c1, e1, hc1⟩ := HO.out.topS hk
        obtain ⟨n1, hn1⟩ : ∃ n1, st.length = n1 + 1 := ⟨st.length - 1, by have := (List.getElem?_eq_some_iff.1 hk).1; omega⟩
        rw [hn1] at e1 hc1
        rw [Nat.add_sub_cancel] at hc1
        subst e1
        obtain ⟨b2, o2, c2, vR', e2, hc2, hrun, hdrop⟩ := HO.out.rs.drop
        subst e2
        have hkΓ : k < Γ.length := HP.out.in hk
        have hkR : k < R.length := by rw [hG4.out.len, ← HΓ.out]; exact hkΓ
        obtain ⟨b3, c3, e3, hb3, hB3, hcell3⟩ := row_ptr HG.out.1.row (by omega)
        cases e3
        have hc3 := (hn4.trans HO.out.n).cell (hcell3 k (.pointer (some ⟨R[k].p, 0, none⟩)) (by simp [hkR]))
        have hst0 : 0 < st.length := by have := (List.getElem?_eq_some_iff.1 hk).1; omega
        have HC3 := Lib.hid hcell3
        have hF := rec_f hm hN hG4.out (by omega) hkR
        have hsm := stF_sml hF t
        have hsays := gst_says hm hG4.out HG.out.2.1 hN (by omega) (by rw [← HΓ.out]; exact hδ) hsame ht
        have hact := Lib.hid (fun (W' : World) (hW : New w4 W') => act_call hm hN hG4.out (by omega) HG.out.2.2.1 hkR ht hW (HH.out.2.2.new (hn4'.out.trans hW)))
        rw [← HΓ.out] at hsays hact hsm
        have htl := (trm_ok ht).2
        have hW0 := HO.out.n
        have hL3 : IntKind.i64.wrap (n1 : Int) = (n1 : Int) := IntWalk.i64_in _ (by omega)
        have hL0 : (0 : Int) ≤ (n1 : Int) := Int.natCast_nonneg _
        have hL1 : (n1 : Int) < (n1 : Int) + 1 := by omega
        have HL := Lib.hid (And.intro hst (And.intro hpsl (And.intro hs0 (And.intro hcnt (And.intro hr' (And.intro htl hn1))))))
        have hkR0 : (k : Int) < (R.length : Int) := by omega
        have hk0 : (0 : Int) ≤ (k : Int) := Int.natCast_nonneg _
        have hsz : Hid (wr.heap.size ≤ wr.heap.size) := Lib.hid (Nat.le_refl _)
        clear hF hb3 hB3 hcell3 hst hpsl hcnt hr' hst0 hn1 hgk
        generalize stF g Γ (LsR R) k t = x at *
        generalize R[k].p = pk at *
        go_wp2_with fail
        go_region_held3 (fun w' => w'.cell? ⟨b1, n1, none⟩ = some (.int .i64 (k : Int)) ∧ w'.cell? ⟨b3, k, none⟩ = some (.pointer (some ⟨pk, 0, none⟩)) ∧ w'.cell? ⟨b2, o2, none⟩ = some (sv t))
          (first | exact ⟨hc1, hc3, hc2⟩ | exact ⟨HK.out.1, HK.out.2.1, HK.out.2.2⟩ | go_keep)
          (first
            | (go_at_call 79; refine (hact.out _ (hW0.drewN 1)).mono ?_; rintro e w5 ⟨cv, lc, rfl, hcv, _, _, _, hn5⟩; have HK := Lib.hid (And.intro (hn5.cell (show (wr.drewN 1).cell? _ = _ from hc1)) (And.intro (hn5.cell (show (wr.drewN 1).cell? _ = _ from hc3)) (hn5.cell (show (wr.drewN 1).cell? _ = _ from hc2))))))
        all_goals (try simp only [Exit.then])
        obtain ⟨x, xc⟩ := x
        simp only at hsays hsm
        have HX := Lib.hid (And.intro hsays (And.intro (HO.out.mono (((New.refl wr).drewN 1).trans hn5)) hk))
        obtain ⟨ac, cc, ec⟩ := owns_slice hcv
        subst ec
        have hkd := Lib.hid (kind_any x (sml_red hsm) w5)
        clear hsays hact hsm HK hcv hc1 hc2 hc3 hL0 hL1 hL3 hkR0 hk0 hsz hW0 hn5
        obtain ⟨aP, cP, eP⟩ := owns_slice HX.out.2.1.op
        subst eP
        cases x with
        | err =>
          simp only [Actn.kd] at hkd
          go_wp2_with (go_at_call 80; refine hkd.out.mono ?_; rintro e w6 ⟨rfl, rfl⟩)
          ((try simp only [Exit.inBlock, Exit.then]); refine bodyPost_ret (results_three rfl _ _ _) rfl ?_)
          exact ⟨false, _, ps, rfl, owns_base HX.out.2.1.op hn4'.out.size, ⟨fun h => (by cases h), fun h => absurd h (HP.out.none HW.out hs HX.out.1)⟩, (fun h => by cases h), (by have h1 := HL.out.2.2.2.1; omega), hn4'.out.trans HX.out.2.1.n⟩
        | acc =>
          simp only [Actn.kd] at hkd
          go_wp2_with (go_at_call 80; refine hkd.out.mono ?_; rintro e w6 ⟨rfl, rfl⟩)
          ((try simp only [Exit.inBlock, Exit.then]); refine bodyPost_ret (results_three rfl _ _ _) rfl ?_)
          have hacc := HP.out.accept hm HW.out HX.out.1
          exact ⟨true, _, ps, rfl, owns_base HX.out.2.1.op hn4'.out.size, ⟨fun _ => hacc.1, fun _ => rfl⟩, fun _ => hacc.2, (by have h1 := HL.out.2.2.2.1; omega), hn4'.out.trans HX.out.2.1.n⟩
        | sh n =>
          obtain ⟨hsh, hedge⟩ := HX.out.1
          obtain ⟨γ', hP'⟩ := HP.out.shift hm HW.out HX.out.2.2 hedge hsh
          have HP' := Lib.hid hP'
          have hO5 := Lib.hid HX.out.2.1
          have hcnt9 : s - 1 + (word.length + 1 - raw'.length) + ps.length = 10000 := by
            have h1 := HL.out.2.2.2.1
            have h2 := HL.out.2.2.2.2.1
            have h3 := HL.out.2.2.1
            simp only [List.length_cons] at h1
            omega
          clear hP' hsh hedge
          simp only [Actn.kd] at hkd
          obtain ⟨i0, hi0, hz0, hz1, hz2⟩ := info_parts T44.row
          have hst9 := HL.out.1.1
          go_wp2_with (go_at_call 80; refine hkd.out.mono ?_; rintro e w6 ⟨rfl, rfl⟩)
          go_region_held3 (fun w' => True) (exact trivial)
            ((refine step_append_lies _ (by rfl) _ _ _ (by rfl) w4.heap.size 3 i0 _ 1 8 Tryz.underlying44 hi0 hz0 hz1 hz2 rfl (by omega) (.slice (some ⟨b1, 0, none⟩) (n1 + 1) c1) st.length (st.flatMap nat1) (by rfl) (ownsRow_new hO5.out.os (((New.refl _).alloc _).drewN 1)) ⟨w6.heap.size, 0, none⟩ 1 1 [.int .i64 (n : Int)] (by rfl) (by rfl) (World.news_of_block (cs := #[.int .i64 (n : Int)]) (t := 3) (fr := (0, 0)) (heap_alloc_new w6 _)) (by simp [Value.oneCell']) (by omega) (by unfold maxLen; omega) (by omega) (by have := hO5.out.n.size; simp; omega) (w6.heap.size + 1) (by simp) ?_; intro gg cap9 w7 hown7 hgrow7 hat7 hlt7))
          all_goals (try simp only [Exit.then])
          have hO7 := ((hO5.out.mono (((New.refl w6).alloc _).drewN 1)).pushS (x := n) hown7 hgrow7 (hat7.imp (fun e => e.symm) fun e => ⟨gg, rfl, by rw [e]; simp⟩)).drop (hdrop _)
          have HO7 := Lib.hid hO7
          clear hO7 hown7 hgrow7 hat7 hlt7
          go_wp2
          go_roundg (s - 1)
          case measure => omega
          case rel => exact ⟨s - 1, γ', raw', ps, st ++ [n], rfl, by go_num, hcnt9, HP', HO7⟩
        | red m =>
          obtain ⟨p, rfl, hred⟩ := HX.out.1
          have hpe : (((p + 1 : Nat) : Int) - 1) = (p : Int) := by omega
          simp only [Actn.kd] at hkd
          rw [hpe] at hkd
          obtain ⟨A, b, k', j, γ', hgp, hbl, hk', hnf, hP'⟩ := HP.out.reduce hm hg hs hL (by rw [HΓ.out]; exact HG.out.2.1.full fun X hX => symsG_all hX) HW.out hred
          have HP' := Lib.hid hP'
          have hO5 := Lib.hid HX.out.2.1
          have hpl : p < g.length := (List.getElem?_eq_some_iff.1 hgp).1
          have hgpe : g[p] = (A, b) := (List.getElem?_eq_some_iff.1 hgp).2
          have hps9 := HL.out.2.1
          have hn1 := HL.out.2.2.2.2.2.2
          have hst9 := HL.out.1.1
          clear hP' hred hgp
          go_wp2_with (first | (go_at_call 80; refine hkd.out.mono ?_; rintro e w6 ⟨rfl, rfl⟩) | (at_builtin; go_must (refine wpList_push _ rfl _ _ _ _ rfl T44 w4.heap.size _ ps.length (ps.flatMap nat1) rfl hO5.out.op [_] rfl rfl _ _ rfl (by first | rfl | simp) (by omega) (by omega) hO5.out.n.size ?_)))
          intro v7 w7 hown7 hgrow7 hne7 hat7
          have HO7 := Lib.hid (hO5.out.pushP (x := p) hown7 hgrow7 hat7)
          obtain ⟨a7, c7, e7⟩ := owns_slice hown7
          subst e7
          clear hown7 hgrow7 hne7 hat7
          obtain ⟨m1, hm1⟩ : ∃ m1, n1 = m1 + b.length := ⟨n1 - b.length, by omega⟩
          have hO8 := HO7.out.take (m := m1 + 1) (by omega) (by omega)
          have hm1e : st.length - b.length = m1 + 1 := by omega
          rw [hm1e] at hk' HP'
          have hl8 : (st.take (m1 + 1)).length = m1 + 1 := by rw [List.length_take]; omega
          have hk8 : (st.take (m1 + 1))[(st.take (m1 + 1)).length - 1]? = some k' := by rw [hl8]; exact hk'
          obtain ⟨b8, c8, e8, hc8⟩ := hO8.topS hk8
          rw [hl8] at e8 hc8
          rw [Nat.add_sub_cancel] at hc8
          cases e8
          have HO8 := Lib.hid hO8
          obtain ⟨bg, og, ab, cb, eg, hg1, hg2, hgs⟩ := (HH.out.1.new (hn4'.out.trans HO7.out.n)).elem hpl
          cases eg
          rw [hgpe] at hg1 hg2
          simp only at hg1 hg2
          have hcap := HO7.out.cap
          subst hm1
          have hs1 : (b.length : Int) ≤ (m1 : Int) + (b.length : Int) + 1 := by omega
          have hs2 : (m1 : Int) + (b.length : Int) + 1 - (b.length : Int) ≤ (c1 : Int) := by omega
          have hs3 : ((m1 : Int) + (b.length : Int) + 1 - (b.length : Int)).toNat = m1 + 1 := by omega
          have hp0 : (0 : Int) ≤ (p : Int) := Int.natCast_nonneg _
          have hpg : (p : Int) < (g.length : Int) := by omega
          have hk'1 : st[m1]? = some k' := by
            rw [Nat.add_sub_cancel] at hk'
            rw [← hk', List.getElem?_take_of_lt (by omega)]
          have hk'Γ : k' < Γ.length := HP.out.in hk'1
          have hk'R : k' < R.length := by rw [hG4.out.len, ← HΓ.out]; exact hk'Γ
          have hn7 := HO7.out.n
          have hp3 := (hn4.trans hn7).cell (HC3.out k' (.pointer (some ⟨R[k'].p, 0, none⟩)) (by simp [hk'R]))
          have hblk := hn7.heap ((hG4.out.recs k' hk'R).st.blk)
          have hmp := cell_of_blk hblk 3
          simp only [List.getElem?_toArray, List.getElem?_cons_zero, List.getElem?_cons_succ] at hmp
          obtain ⟨nt, ft, hmf, hnt, htr⟩ := hG4.out.tr k' hk'R
          have hAl : A.length ≤ 4 := by
            have := hm.head g[p] (List.getElem_mem hpl)
            rw [hgpe] at this
            exact symbolOk_le this.1
          have hlk := (hmf.new ((hn7.trans ((New.refl w7).drewN 1)))).look Tryz.underlying9 Tryz.underlying91 (z3 _) (s := A) (by omega)
          rw [tr_get hG4.out.gam htr (by rw [← HΓ.out]; exact hk'Γ) (HG.out.2.2.1 k' hk'R).1 A, ← HΓ.out, hnf] at hlk
          have hlk2 : (Instr.lookup 91 (.map (some R[k'].m2)) (sv A) false).run Tryz.prog w7.drew = .ok (.int .i64 (j : Int)) w7.drew := hlk
          have hk'0 : (0 : Int) ≤ (k' : Int) := Int.natCast_nonneg _
          have hk'l : (k' : Int) < (R.length : Int) := by omega
          have hm10 : (0 : Int) ≤ (m1 : Int) := Int.natCast_nonneg _
          have hm1l : (m1 : Int) < (m1 : Int) + 1 := by omega
          have hm1w : IntKind.i64.wrap (m1 : Int) = (m1 : Int) := IntWalk.i64_in _ (by omega)
          clear hO8 hgs hgpe hblk hmf hnt htr hlk hk' hk'1 hk8 hk'Γ
          generalize R[k'].p = p' at *
          generalize R[k'].m2 = m2 at *
          go_wp2_with fail
          have hown8 : w7.ownsRow w4.heap.size 3 1 (.slice (some ⟨b1, 0, none⟩) (m1 + 1) c1) (m1 + 1) ((st.take (m1 + 1)).flatMap nat1) := by
            have := HO8.out.os
            unfold OwnK at this
            rw [hl8] at this
            exact this
          have HW8 := Lib.hid (And.intro hown8 hn7.size)
          have HL8 := Lib.hid hl8
          obtain ⟨i0, hi0, hz0, hz1, hz2⟩ := info_parts T44.row
          clear hown8 hn7 hl8
          go_region_law
            ((refine step_append_lies _ (by rfl) _ _ _ (by rfl) w4.heap.size 3 i0 _ 1 8 Tryz.underlying44 hi0 hz0 hz1 hz2 rfl (by omega) (.slice (some ⟨b1, 0, none⟩) (m1 + 1) c1) (m1 + 1) ((st.take (m1 + 1)).flatMap nat1) (by rfl) (ownsRow_new HW8.out.1 (((New.refl _).alloc _).drewN 1)) ⟨w7.heap.size, 0, none⟩ 1 1 [.int .i64 (j : Int)] (by rfl) (by rfl) (World.news_of_block (cs := #[.int .i64 (j : Int)]) (t := 3) (fr := (0, 0)) (heap_alloc_new w7 _)) (by simp [Value.oneCell']) (by omega) (by unfold maxLen; omega) (by omega) (by have := HW8.out.2; simp; omega) (w7.heap.size + 1) (by simp) ?_; intro gg cap9 w9 hown9 hgrow9 hat9 hlt9))
          all_goals (try simp only [Exit.then])
          all_goals
            (have hO9 := (HO8.out.mono (((New.refl w7).alloc _).drewN 1)).pushS (x := j) (v' := .slice (some ⟨gg, 0, none⟩) (m1 + 1 + 1) cap9) (by rw [HL8.out]; exact hown9) hgrow9 (hat9.imp (fun e => e.symm) fun e => ⟨gg, rfl, by rw [e]; simp⟩)
             have HO9 := Lib.hid hO9
             have hcnt9 : s - 1 + (word.length + 1 - (t :: raw').length) + (ps ++ [p]).length = 10000 := by
               have h1 := HL.out.2.2.2.1
               have h3 := HL.out.2.2.1
               simp only [List.length_cons, List.length_append, List.length_nil] at h1 ⊢
               omega
             clear hown9 hgrow9 hat9 hlt9 hO9
             go_wp2
             go_roundg (s - 1)
             case measure => omega
             case rel => exact ⟨s - 1, γ', t :: raw', ps ++ [p], st.take (m1 + 1) ++ [j], rfl, by go_num, hcnt9, HP', HO9⟩)
end Go.Proofs.YtdejcdmgcckmoaaGreatDoor

/- The reference: the reductions read back. -/
import Derived.Test.YtdejcdmgcckmoaaGreatDoorYUG
namespace Go.Proofs.YtdejcdmgcckmoaaGreatDoor
open Go.RowKit Go.Sort Lr

theorem enters43 : ∀ args w, (callFunc 43 args).run Tryz.prog w = .ok (.enter 43 args) w := enters_of Tryz.func43 (by kernel_rfl) rfl
set_option maxRecDepth 20000 in
set_option maxHeartbeats 4000000 in
/-- The reductions, read back, derive the word. -/
theorem Derived_any {g : Gram} (hm : Sm g) {ps : List Nat} {word : List Str} (hd : Der g [Lr.start g] ps.reverse word) (hps : ps.length ≤ 10000) (hw : WordOk g word) (v vR : Value) (w : World) (h : GramAt w v g) {B : Nat} (hR : OwnK nat1 1 3 w B vR ps) :
    Calls Tryz.prog 31 #[v, vR] w fun e w' => ∃ vo, e = .returned (.tuple #[vo, .bool true]) ∧ StrsAt w' vo word ∧ New w w' := by
  have hgp := hm.pos
  have hI := DerI.init hm hd
  have hg0 : Lr.start g = g[0].1 := start_get hm.pos
  have hRr : RowK nat1 1 w vR ps := RowK.of_owns nat1_len hR
  obtain ⟨a, cap, rfl⟩ := h.slice
  obtain ⟨aR, cR, rfl⟩ := hRr.slice
  have HH := Lib.hid (And.intro h (And.intro hRr hw))
  have HI := Lib.hid hI
  obtain ⟨bg, og, ab, cb, eg, hg1, hg2, hgs⟩ := h.elem hm.pos
  cases eg
  rw [← hg0] at hg1
  simp only [Nat.zero_mul, Nat.add_zero] at hg1
  clear h hR hRr hd hI hw hg2 hgs
  go_enter Tryz.func31, Tryz.ntmps31
  go_wp2
  go_loopg [6, 7] ps.length (fun gk u6 u7 wr => ∃ (k : Nat) (row : List Str), k ≤ ps.length ∧ gk = k ∧ u7 = .int .i64 ((k : Int) - 1) ∧ Hid (row.length + 4 * k ≤ 1 + 4 * ps.length) ∧ Hid (DerI g row (ps.take k).reverse word) ∧ Hid (StrsAt wr u6 row) ∧ Hid (New w wr))
  case atStart => exact ⟨ps.length, [Lr.start g], Nat.le_refl _, rfl, rfl, Lib.hid (by simp), by rw [List.take_length]; exact HI, Lib.hid (by rw [hg0]; exact strs_one w _ 9), Lib.hid ((New.refl w).alloc _)⟩
  case round =>
    obtain ⟨k, row, hk, hgk, hu7, hrl, hD, hrow, hn⟩ := hrel
    have hgk := hgk.symm
    subst hgk
    rcases Nat.eq_zero_or_pos k with rfl | hpos
    · have e7 : u7 = .int .i64 (-1) := hu7
      subst e7
      clear hu7
      have hfin : row = word := hD.out.fin
      subst hfin
      obtain ⟨b, c, eb⟩ := hrow.out.slice
      subst eb
      have hq := Lib.hid (ContainsFunc_str _ row wr hrow.out (by have := HH.out.2.2.len; omega) 43 #[] greatB enters43 (fun k hk w' hn' => (great_any row[k] w' (symbolOk_pos (HH.out.2.2.trm _ (List.getElem_mem hk)).1)).mono (by rintro e w'' ⟨rfl, rfl⟩; exact ⟨rfl, New.refl _⟩)))
      have hany : row.any greatB = false := by
        rw [List.any_eq_false]
        intro x hx
        rw [(hD.out.sym x hx).2, (HH.out.2.2.trm x hx).2]
        exact Bool.false_ne_true
      rw [hany] at hq
      clear hD
      go_wp2_with (go_at_call 74; refine hq.out.mono ?_; rintro e w1 ⟨rfl, hn1⟩)
      go_ret2
      exact ⟨_, rfl, hrow.out.new hn1, hn.out.trans hn1⟩
    · obtain ⟨j, rfl⟩ : ∃ j, k = j + 1 := ⟨k - 1, by omega⟩
      have e7 : u7 = .int .i64 (j : Int) := by rw [hu7]; congr 1; omega
      subst e7
      clear hu7
      have hjl : j < ps.length := by omega
      have hstep := hD.out
      rw [take_rev hjl] at hstep
      obtain ⟨α, A, bo, t, hre, hp, hgr, ht, hD'⟩ := hstep.step hm
      subst hre
      obtain ⟨bR, oR, eR, hcR⟩ := HH.out.2.1.elem hjl
      cases eR
      have hcj := hn.out.cell (show w.cell? ⟨bR, oR + j, none⟩ = some (.int .i64 (ps[j] : Int)) by have := hcR 0 (by omega); simpa [nat1] using this)
      have hpl : ps[j] < g.length := (List.getElem?_eq_some_iff.1 hp).1
      have hgpe : g[ps[j]] = (A, bo) := (List.getElem?_eq_some_iff.1 hp).2
      obtain ⟨bg, og, ab, cb, eg, hg1, hg2, hgs⟩ := (HH.out.1.new hn.out).elem hpl
      cases eg
      have hbl : bo.length ≤ 4 := by have := hm.body g[ps[j]] (List.getElem_mem hpl); rw [hgpe] at this; exact this
      have hsy := hD.out.sym
      have HT := Lib.hid (And.intro hD' (And.intro ht (And.intro hbl (And.intro hsy hgr))))
      rw [hgpe] at hg1 hg2 hgs
      simp only at hg1 hg2 hgs
      obtain ⟨m, hmα⟩ : ∃ m, m = α.length := ⟨_, rfl⟩
      obtain ⟨tl, htl⟩ : ∃ tl, tl = t.length := ⟨_, rfl⟩
      obtain ⟨n6, hn6⟩ : ∃ n6, n6 = (α ++ A :: t).length := ⟨_, rfl⟩
      have hnn : n6 = m + 1 + tl := by rw [hn6, List.length_append, List.length_cons, hmα, htl]; omega
      obtain ⟨a6, c6, e6⟩ := hrow.out.slice
      rw [← hn6] at e6
      subst e6
      obtain ⟨b6, o6, e6, hcA⟩ := hrow.out.elem (k := m) (by omega)
      cases e6
      have hAe : (α ++ A :: t)[m]'(by omega) = A := by
        rw [List.getElem_append_right (by omega)]
        simp [hmα]
      rw [hAe] at hcA
      have hxs : ∀ q, (hq : q < tl) → ∃ x, wr.cell? ⟨b6, o6 + (m + q + 1), none⟩ = some (sv x) ∧ 0 < x.length ∧ greatB x = false := fun q hq => by
        obtain ⟨b', o', e', hc'⟩ := hrow.out.elem (k := m + q + 1) (by omega)
        cases e'
        have he : (α ++ A :: t)[m + q + 1]'(by omega) = t[q]'(by omega) := by
          rw [List.getElem_append_right (by omega)]
          have : m + q + 1 - α.length = q + 1 := by omega
          simp [this]
        rw [he] at hc'
        exact ⟨_, hc', symbolOk_pos (HT.out.2.2.2.1 _ (by simp)).1, HT.out.2.1 _ (List.getElem_mem (by omega))⟩
      have hA0 : 0 < A.length := symbolOk_pos (HT.out.2.2.2.1 A (by simp)).1
      have hcap6 := hrow.out.cap.2
      have HXS := Lib.hid (And.intro hxs (And.intro hn6 hnn))
      have hrb : α.length + bo.length + t.length + 4 * j ≤ 4 * ps.length ∧ α.length + bo.length + t.length ≤ 100000 := by
        have := hrl.out
        have := HT.out.2.2.1
        omega
      have HRB := Lib.hid (And.intro hrb (And.intro hmα htl))
      have hTk := slice_takeS (a := some ⟨b6, o6, none⟩) (n := n6) (c := c6) (m := m) (by omega) hcap6
      obtain ⟨aD, cD, hDr, hSD⟩ := slice_dropE hrow.out (d := m) (δ := t) (by omega) (by rw [hmα, List.drop_append]; simp)
      have hSα : StrsAt wr (.slice (some ⟨b6, o6, none⟩) m c6) α := by rw [hmα]; exact hrow.out.take
      have hqC := Lib.hid (fun (W' : World) (hW : New wr W') => Concat3_any hW hSα hgs hSD hrb.2)
      have hn6b : n6 ≤ 100000 := by have := hrl.out; omega
      have hqA := Lib.hid (great_any A wr hA0)
      rw [HT.out.2.2.2.2] at hqA
      have HN := Lib.hid hn.out
      have hm0 : (0 : Int) ≤ (m : Int) := Int.natCast_nonneg _
      have hp0 : (0 : Int) ≤ (ps[j] : Int) := Int.natCast_nonneg _
      have hpg : (ps[j] : Int) < (g.length : Int) := by omega
      have hmn : (m : Int) < (m : Int) + 1 + (tl : Int) := by omega
      have hw1 : IntKind.i64.wrap ((m : Int) + 1) = (m : Int) + 1 := IntWalk.i64_in _ (by omega)
      have hd1 : decide ((m : Int) < 0) = false := decide_eq_false (by omega)
      have hd2 : decide ((ps[j] : Int) < 0) = false := decide_eq_false (by omega)
      have hd3 : decide ((g.length : Int) ≤ (ps[j] : Int)) = false := decide_eq_false (by omega)
      have hd4 : decide ((ps[j] : Int) ≥ (g.length : Int)) = false := decide_eq_false (by omega)
      clear hD hD' ht hsy hgr hxs hrb hSα hSD hgs hrow hrl hp hgpe hAe hn hmα htl hn6 hcR hstep hbl
      generalize ps[j] = p at *
      subst hnn
      go_wp2
      go_loopg [9] tl (fun gk u9 wr' => ∃ q : Nat, q ≤ tl ∧ gk = q ∧ u9 = .int .i64 ((m : Int) + q) ∧ wr = wr')
      case atStart => exact ⟨tl, Nat.le_refl _, rfl, by go_num, rfl⟩
      case round =>
        obtain ⟨q, hq, hgq, hu9, rfl⟩ := hrel
        have hgq := hgq.symm
        subst hgq
        rcases Nat.eq_zero_or_pos q with rfl | hpos
        · have e9 : u9 = .int .i64 (m : Int) := by rw [hu9]; congr 1 <;> omega
          subst e9
          clear hu9
          go_wp2_with (go_at_call 43; refine hqA.out.mono ?_; rintro e w' ⟨rfl, rfl⟩)
          go_quiet (fail)
          have hnq : New wr (wr.drewN nq) := (New.refl wr).drewN nq
          have hg2q := hnq.cell hg2
          generalize wr.drewN nq = W0 at *
          go_wp2_with fail
          go_region_held3 (fun w' => w'.cell? ⟨bg, og + p * 2 + 1, none⟩ = some (.slice ab bo.length cb)) (first | exact hg2q | exact HK.out | go_keep)
            (first | (go_at_call 83; refine (hqC.out _ (hnq.trans ((New.refl W0).drewN 1))).mono ?_; rintro e w5 ⟨vo, rfl, hvo, hn5⟩; have HK := Lib.hid (hn5.cell hg2)))
          all_goals (try simp only [Exit.then])
          obtain ⟨ao, co, eo⟩ := hvo.slice
          subst eo
          have HV := Lib.hid (And.intro hvo hn5)
          clear hvo hn5
          go_wp2
          go_roundg j
          case measure => omega
          case rel => exact ⟨j, α ++ bo ++ t, by omega, rfl, by go_num, Lib.hid (by have := HRB.out.1.1; simp only [List.length_append]; omega), Lib.hid HT.out.1, Lib.hid HV.out.1, Lib.hid (HN.out.trans HV.out.2)⟩
        · obtain ⟨q', rfl⟩ : ∃ q', q = q' + 1 := ⟨q - 1, by omega⟩
          have e9 : u9 = .int .i64 ((m : Int) + (q' : Int) + 1) := by rw [hu9]; congr 1 <;> omega
          subst e9
          clear hu9
          obtain ⟨x, hx1, hx2, hx3⟩ := HXS.out.1 q' (by omega)
          have hqx := Lib.hid (great_any x wr hx2)
          rw [hx3] at hqx
          go_wp2_with (go_at_call 43; refine hqx.out.mono ?_; rintro e w' ⟨rfl, rfl⟩)
          go_roundg q'
          case measure => omega
          case rel => exact ⟨q', by omega, rfl, by go_num, rfl⟩
end Go.Proofs.YtdejcdmgcckmoaaGreatDoor

/- The law of the states. -/
import Derived.Test.YtdejcdmgcckmoaaGreatDoorYBB
import Derived.Test.YtdejcdmgcckmoaaGreatDoorYAA
import Derived.Test.YtdejcdmgcckmoaaGreatDoorYW
import Derived.Test.YtdejcdmgcckmoaaGreatDoorYJ
namespace Go.Proofs.YtdejcdmgcckmoaaGreatDoor
open Go.RowKit Go.Sort Lr

/-- A grammar of which is spoken, with few states. -/
theorem small_any (v : Value) (g : Gram) (w : World) (h : GramAt w v g) (hf : Fits g) :
    Calls Tryz.prog 21 #[v] w fun e w' => ∃ b, e = .returned (.bool b) ∧ (b = true → GOk g ∧ Few g 120) ∧ New w w' := by
  obtain ⟨a, cap, rfl⟩ := h.slice
  have HG := Lib.hid (And.intro h hf)
  clear h hf
  go_enter Tryz.func21, Tryz.ntmps21
  go_wp2_with fail
  refine (GrammarOk_any _ g w HG.out.1 HG.out.2).mono ?_
  rintro e w1 ⟨b1, rfl, hok, hn1⟩
  cases b1 with
  | false =>
    clear hok
    go_wp2
    go_ret
    exact ⟨false, rfl, (fun h => by cases h), hn1⟩
  | true =>
    have HOK := Lib.hid (hok rfl)
    clear hok
    have hq := Lib.hid (RefStates_any HOK.out _ w1 (HG.out.1.new hn1))
    have HN := Lib.hid hn1
    clear hn1
    go_wp2_with fail
    refine hq.out.mono ?_
    rintro e w2 ⟨vL, vE, b, rfl, hn2, _, hb⟩
    have HB := Lib.hid hb
    clear hb hq
    go_wp2
    go_ret
    refine ⟨b, rfl, fun h => ⟨HOK.out, ?_⟩, HN.out.trans hn2⟩
    obtain ⟨_, _, _, _, _, _, _, hf, _⟩ := HB.out h
    exact hf
theorem few_ref {g : Gram} {Γ Δ : List (List Str)} {a b : List (List Itm)} {E F : List Edg} (h1 : Lr.Told g Γ a E) (h2 : Lr.Told g Δ b F) (hf : Few g 120) (hb : F.length ≤ 13000) (hm : Sm g)
    (o1 : ∀ l ∈ a, l.Pairwise fun x y => cmpItm x y < 0) (o2 : ∀ l ∈ b, l.Pairwise fun x y => cmpItm x y < 0) : ∃ φ, AlikeH Γ.length φ a b E F ∧ Γ.length ≤ 1000 ∧ E.length ≤ 1000000 ∧ ∀ l ∈ a, l.length ≤ 1000000 := by
  obtain ⟨φ, h⟩ := h1.alike h2 (r := fun x y => cmpItm x y < 0) ord_itm.irr ord_itm.asy o1 o2
  refine ⟨φ, h, Nat.le_trans (hf.le h1.full.toGamOk) (by omega), by rw [h.elen]; omega, fun l hl => ?_⟩
  obtain ⟨k, hk⟩ := List.getElem?_of_mem hl
  have hkl : k < Γ.length := by rw [← h1.len]; exact (List.getElem?_eq_some_iff.1 hk).1
  have hnd : l.Nodup := (o1 l hl).imp fun {x y} hxy e => by subst e; exact ord_itm.irr x hxy
  exact Nat.le_trans (items_le hm.len hm.body hnd fun i hi => (h1.items k _ l (List.getElem?_eq_getElem hkl) hk i).1 hi) (by omega)
set_option maxRecDepth 20000 in
set_option maxHeartbeats 2000000 in
theorem FnStates_any (v : Value) (g : Gram) (w : World) (h : GramAt w v g) (hf : Fits g) :
    Calls Tryz.prog 5 #[v] w fun e w' => e = .returned (.bool true) ∧ New w w' := by
  obtain ⟨a, cap, rfl⟩ := h.slice
  have HG := Lib.hid (And.intro h hf)
  clear h hf
  go_enter Tryz.func5, Tryz.ntmps5
  go_wp2_with fail
  refine (zzFits1_any _ g w HG.out.1 HG.out.2).mono ?_
  rintro e w1 ⟨b1, rfl, hn1⟩
  cases b1 with
  | false =>
    go_wp2
    go_ret
    exact ⟨rfl, hn1⟩
  | true =>
    go_wp2_with fail
    refine (small_any _ g w1 (HG.out.1.new hn1) HG.out.2).mono ?_
    rintro e w2 ⟨b2, rfl, hok, hn2⟩
    cases b2 with
    | false =>
      clear hok
      go_wp2
      go_ret
      exact ⟨rfl, hn1.trans hn2⟩
    | true =>
      have HOK := Lib.hid (hok rfl)
      have hnw2 := hn1.trans hn2
      clear hok
      have hq := Lib.hid (States_any HOK.out.1 HOK.out.2 _ w2 (HG.out.1.new hnw2))
      have HN := Lib.hid hnw2
      clear hnw2 hn1 hn2
      go_wp2_with fail
      refine hq.out.mono ?_
      rintro e w3 ⟨vL, vE, c, A, E, rfl, hd, hT, hM, hE, ho, _, hn3⟩
      have hnw3 := HN.out.trans hn3
      have hq2 := Lib.hid (RefStates_any HOK.out.1 _ w3 (HG.out.1.new hnw3))
      have H3 := Lib.hid (And.intro hT (And.intro hM (And.intro hE (And.intro ho hnw3))))
      clear hd hT hM hE ho hn3 hnw3 hq
      go_wp2_with fail
      refine hq2.out.mono ?_
      rintro e w4 ⟨vL', vE', b, rfl, hn4, hfl, hb⟩
      cases b with
      | false =>
        exact absurd HOK.out.2 (hfl rfl)
      | true =>
        obtain ⟨Γ, B, F, hT', hM', hE', ho', hf', hF⟩ := hb rfl
        obtain ⟨φ, hA, hN, hEl, hrow⟩ := few_ref H3.out.1 hT' hf' hF HOK.out.1.toSm H3.out.2.2.2.1 ho'
        have hq3 := Lib.hid (Alike_any hA hN hEl hrow vL vE vL' vE' w4 (H3.out.2.1.new hn4) (H3.out.2.2.1.new hn4) hM' hE')
        have HN4 := Lib.hid (H3.out.2.2.2.2.trans hn4)
        clear hb hT' hM' hE' ho' hf' hF hA hN hEl hrow hn4 hq2
        go_wp2_with (go_at_call 24; refine hq3.out.mono ?_; rintro e w5 ⟨rfl, hn5⟩)
        go_ret
        exact ⟨rfl, HN4.out.trans hn5⟩
end Go.Proofs.YtdejcdmgcckmoaaGreatDoor

/- The law of the reductions. -/
import Derived.Test.YtdejcdmgcckmoaaGreatDoorYUE
import Derived.Test.YtdejcdmgcckmoaaGreatDoorYUB
import Derived.Test.YtdejcdmgcckmoaaGreatDoorYUC
import Derived.Test.YtdejcdmgcckmoaaGreatDoorYUH
namespace Go.Proofs.YtdejcdmgcckmoaaGreatDoor
open Go.RowKit Go.Sort Lr

set_option maxRecDepth 20000 in
set_option maxHeartbeats 2000000 in
/-- What FnReduced answers. -/
theorem FnReduced_any (v vw : Value) (g : Gram) (word : List Str) (w : World) (h : GramAt w v g) (hf : Fits g) (hwd : StrsAt w vw word) (hwl : word.length ≤ 9223372036854775807) (htab : TabW w) :
    Calls Tryz.prog 7 #[v, vw] w fun e w' => e = .returned (.bool true) ∧ New w w' := by
  obtain ⟨a, cap, rfl⟩ := h.slice
  obtain ⟨aw, cw, rfl⟩ := hwd.slice
  have HG := Lib.hid (And.intro h (And.intro hf (And.intro hwd htab)))
  have hq1 := Lib.hid (zzFits1_any _ g w h hf)
  clear h hf hwd htab
  go_enter Tryz.func7, Tryz.ntmps7
  go_wp2_with fail
  refine hq1.out.mono ?_
  rintro e w1 ⟨b1, rfl, hn1⟩
  cases b1 with
  | false =>
    go_wp2
    go_ret
    exact ⟨rfl, hn1⟩
  | true =>
    have hq2 := Lib.hid (zzFits3_any _ word w1 (HG.out.2.2.1.new hn1) hwl)
    have HN1 := Lib.hid hn1
    clear hn1
    go_wp2_with fail
    refine hq2.out.mono ?_
    rintro e w2 ⟨b2, rfl, hn2⟩
    cases b2 with
    | false =>
      go_wp2
      go_ret
      exact ⟨rfl, HN1.out.trans hn2⟩
    | true =>
      have HN2 := Lib.hid (HN1.out.trans hn2)
      have hq3 := Lib.hid (small_any _ g w2 (HG.out.1.new HN2.out) HG.out.2.1)
      clear hn2
      go_wp2_with fail
      refine hq3.out.mono ?_
      rintro e w3 ⟨b3, rfl, hok, hn3⟩
      cases b3 with
      | false =>
        clear hok
        go_wp2
        go_ret
        exact ⟨rfl, HN2.out.trans hn3⟩
      | true =>
        have HOK := Lib.hid (hok rfl)
        have hm := HOK.out.1.toSm
        have HN3 := Lib.hid (HN2.out.trans hn3)
        have hq4 := Lib.hid (wordOk_any hm _ _ word w3 (HG.out.1.new HN3.out) (HG.out.2.2.1.new HN3.out) hwl)
        clear hn3 hok
        go_wp2_with fail
        refine hq4.out.mono ?_
        rintro e w4 ⟨b4, rfl, hwo, hn4⟩
        cases b4 with
        | false =>
          clear hwo
          go_wp2
          go_ret
          exact ⟨rfl, HN3.out.trans hn4⟩
        | true =>
          have HWO := Lib.hid (hwo rfl)
          have HN4 := Lib.hid (HN3.out.trans hn4)
          have hq5 := Lib.hid (Light_any hm _ w4 (HG.out.1.new HN4.out))
          clear hn4 hwo
          go_wp2_with fail
          refine hq5.out.mono ?_
          rintro e w5 ⟨b5, rfl, hli, hn5⟩
          cases b5 with
          | false =>
            clear hli
            go_wp2
            go_ret
            exact ⟨rfl, HN4.out.trans hn5⟩
          | true =>
            have HLI := Lib.hid (hli rfl)
            have HN5 := Lib.hid (HN4.out.trans hn5)
            have hqh := Lib.hid (Has_any hm _ _ word w5 (HG.out.1.new HN5.out) (HG.out.2.2.1.new HN5.out) HWO.out.len)
            clear hn5 hli
            go_wp2_with fail
            refine hqh.out.mono ?_
            rintro e wh ⟨bh, rfl, hbi, hnh⟩
            cases bh with
            | false =>
              clear hbi
              go_wp2
              go_ret
              exact ⟨rfl, HN5.out.trans hnh⟩
            | true =>
              have HHAS := Lib.hid (hbi.1 rfl)
              have HNh := Lib.hid (HN5.out.trans hnh)
              have hq6 := Lib.hid (Clean_any HOK.out.1 HOK.out.2 _ wh (HG.out.1.new HNh.out))
              clear hnh hbi
              go_wp2_with fail
              refine hq6.out.mono ?_
              rintro e w6 ⟨b6, b7, rfl, hcl, hn6⟩
              cases b6 with
              | false =>
                clear hcl
                go_wp2
                go_ret
                exact ⟨rfl, HNh.out.trans hn6⟩
              | true =>
                have HCL := Lib.hid (hcl rfl)
                have HN6 := Lib.hid (HNh.out.trans hn6)
                have hq7 := Lib.hid (Accepts_any HOK.out.1 HOK.out.2 HCL.out HLI.out HWO.out _ _ w6 (HG.out.1.new HN6.out) (HG.out.2.2.1.new HN6.out) (HG.out.2.2.2.new HN6.out))
                clear hn6 hcl
                go_wp2_with fail
                refine hq7.out.mono ?_
                rintro e w7 ⟨is, vR, ps, rfl, hrow, hiff, hder, hpsl, hn7⟩
                have his : is = true := hiff.2 HHAS.out
                subst his
                have hq8 := Lib.hid (Derived_any hm (hder rfl) hpsl HWO.out _ _ w7 (HG.out.1.new (HN6.out.trans hn7)) hrow)
                have HN7 := Lib.hid (HN6.out.trans hn7)
                obtain ⟨aR, cR, eR⟩ := owns_slice hrow
                subst eR
                clear hn7 hiff hrow hder hpsl
                go_wp2_with fail
                refine hq8.out.mono ?_
                rintro e w8 ⟨vo, rfl, hvo, hn8⟩
                have HN8 := Lib.hid (HN7.out.trans hn8)
                have hq9 := Lib.hid (Equal_str _ _ word word w8 hvo (HG.out.2.2.1.new HN8.out) (by have := HWO.out.len; omega) (by have := HWO.out.len; omega))
                obtain ⟨ao, co, eo⟩ := hvo.slice
                subst eo
                clear hn8 hvo
                go_wp2_with fail
                refine hq9.out.mono ?_
                rintro e w9 ⟨rfl, hn9⟩
                go_wp2
                go_ret
                exact ⟨by first | rfl | simp, HN8.out.trans hn9⟩
end Go.Proofs.YtdejcdmgcckmoaaGreatDoor

/- A part of the proofs about gocc: G5. -/
import Derived.Test.YtdejcdmgcckmoaaGreatDoorXG4
namespace Go.Proofs.YtdejcdmgcckmoaaGreatDoor
open Go.RowKit Lr

set_option maxRecDepth 20000 in
set_option maxHeartbeats 2000000 in
theorem FnSymbols_any (v : Value) (g : Gram) (w : World) (h : GramAt w v g) (hf : Fits g) :
    Calls Tryz.prog 3 #[v] w fun e w' => e = .returned (.bool true) ∧ New w w' := by
  obtain ⟨a, cap, rfl⟩ := h.slice
  have HG := Lib.hid (And.intro h hf)
  clear h hf
  go_enter Tryz.func3, Tryz.ntmps3
  go_wp2_with fail
  refine (zzFits1_any _ g w HG.out.1 HG.out.2).mono ?_
  rintro e w1 ⟨b1, rfl, hn1⟩
  cases b1 with
  | false =>
    go_wp2
    go_ret
    exact ⟨rfl, hn1⟩
  | true =>
    go_wp2_with fail
    refine (GrammarOk_any _ g w1 (HG.out.1.new hn1) HG.out.2).mono ?_
    rintro e w2 ⟨b2, rfl, hok, hn2⟩
    cases b2 with
    | false =>
      clear hok
      go_wp2
      go_ret
      exact ⟨rfl, hn1.trans hn2⟩
    | true =>
      have HOK := Lib.hid (hok rfl).toSm
      have hnw2 := hn1.trans hn2
      clear hok
      go_wp2_with fail
      refine (Symbols_any _ g w2 (HG.out.1.new hnw2) HOK.out).mono ?_
      rintro e w3 ⟨v1, v2, rfl, hv1, hv2, hn3⟩
      have hnw3 := hnw2.trans hn3
      have HV := Lib.hid (And.intro hv1 hv2)
      clear hv1 hv2
      go_wp2_with fail
      refine (Terminals_any _ g w3 (HG.out.1.new hnw3) HOK.out).mono ?_
      rintro e w4 ⟨v4, rfl, hv4, hn4⟩
      have hv4 := hv4.at
      have hnw4 := hnw3.trans hn4
      have hv1 := HV.out.1.new hn4
      have hv2 := HV.out.2.new hn4
      obtain ⟨a1, c1, rfl⟩ := hv1.slice
      obtain ⟨a2, c2, rfl⟩ := hv2.slice
      obtain ⟨a4, c4, rfl⟩ := hv4.slice
      have hl4 : (terminalsF g).length ≤ 1000 := by
        have := terminals_len HOK.out.body
        have := HOK.out.len
        omega
      have hl1 : ((termsL g).map toldS).length ≤ 1000 := by
        rw [List.length_map]
        exact Nat.le_trans (List.length_filter_le _ _) (types_len HOK.out)
      have hl2 : (headsA (augP g)).length ≤ 1000 := by
        have := headsA_len (augP g)
        have := HOK.out.len
        have : (augP g).length ≤ 13 := by simp [augP]; omega
        omega
      have HT := Lib.hid (fun t (ht : t ∈ terminalsF g) => symbols_term HOK.out ht)
      have HH := Lib.hid (fun t (ht : t ∈ headsF g) => symbols_head HOK.out ht)
      generalize (termsL g).map toldS = T1 at *
      generalize headsA (augP g) = T2 at *
      generalize terminalsF g = T4 at *
      have H4 := Lib.hid (And.intro hv1 (And.intro hv2 hv4))
      clear hv1 hv2 hv4 hnw2 hnw3 hn1 hn2 hn3 hn4
      go_wp2_with fail
      go_loopg [5, 25] T4.length (fun gk u5 i wr => ∃ k, k ≤ T4.length ∧ gk = T4.length - k ∧ u5 = .bool true ∧ i = .int .i64 k ∧ New w4 wr)
      case atStart => exact ⟨0, Nat.zero_le _, rfl, rfl, rfl, New.refl _⟩
      case round =>
        obtain ⟨k, hk, rfl, rfl, rfl, hn⟩ := hrel
        by_cases hlt : k < T4.length
        · obtain ⟨b, o, e, d1⟩ := (H4.out.2.2.new hn).elem hlt
          cases e
          have hq1 := Contains_str _ T1 T4[k] wr (H4.out.1.new hn) (by omega)
          have hq2 := Contains_str _ T2 T4[k] wr (H4.out.2.1.new hn) (by omega)
          have hT := HT.out _ (List.getElem_mem hlt)
          rw [hT.1] at hq1
          rw [hT.2] at hq2
          have HQ1 := Lib.hid hq1
          have HQ2 := Lib.hid hq2
          clear hq1 hq2 hT
          go_wp2_with (first | (go_at_call 15; refine HQ1.out.mono ?_; rintro e w' ⟨rfl, rfl⟩) | (go_at_call 15; refine HQ2.out.mono ?_; rintro e w' ⟨rfl, rfl⟩))
          go_roundg (T4.length - (k + 1))
          case measure => omega
          case rel => exact ⟨k + 1, by omega, rfl, rfl, by go_num, hn⟩
        · go_wp2_with fail
          refine (Heads_any _ g wr (HG.out.1.new (hnw4.trans hn)) (by have := HOK.out.len; omega)).mono ?_
          rintro e w5 ⟨v5, rfl, hv5, hn5⟩
          have hv5 := hv5.at
          obtain ⟨a5, c5, rfl⟩ := hv5.slice
          have hl5 : (headsF g).length ≤ 1000 := by
            have := headsF_len g
            have := HOK.out.len
            omega
          generalize headsF g = T5 at *
          have hnw5 := (hnw4.trans hn).trans hn5
          have H5 := Lib.hid (And.intro (H4.out.1.new (hn.trans hn5)) (And.intro (H4.out.2.1.new (hn.trans hn5)) hv5))
          clear hv5 hn5 hn
          go_wp2_with fail
          go_loopg [5, 45] T5.length (fun gk u5 i wr => ∃ k, k ≤ T5.length ∧ gk = T5.length - k ∧ u5 = .bool true ∧ i = .int .i64 k ∧ New w5 wr)
          case atStart => exact ⟨0, Nat.zero_le _, rfl, rfl, rfl, New.refl _⟩
          case round =>
            obtain ⟨j, hj, rfl, rfl, rfl, hn⟩ := hrel
            by_cases hlj : j < T5.length
            · obtain ⟨b, o, e, d1⟩ := (H5.out.2.2.new hn).elem hlj
              cases e
              have hq1 := Contains_str _ T1 T5[j] wr (H5.out.1.new hn) (by omega)
              have hq2 := Contains_str _ T2 T5[j] wr (H5.out.2.1.new hn) (by omega)
              have hT := HH.out _ (List.getElem_mem hlj)
              rw [hT.2] at hq1
              rw [hT.1] at hq2
              have HQ1 := Lib.hid hq1
              have HQ2 := Lib.hid hq2
              clear hq1 hq2 hT
              go_wp2_with (first | (go_at_call 15; refine HQ1.out.mono ?_; rintro e w' ⟨rfl, rfl⟩) | (go_at_call 15; refine HQ2.out.mono ?_; rintro e w' ⟨rfl, rfl⟩))
              go_roundg (T5.length - (j + 1))
              case measure => omega
              case rel => exact ⟨j + 1, by omega, rfl, rfl, by go_num, hn⟩
            · go_wp2
              go_ret
              exact ⟨rfl, hnw5.trans hn⟩
end Go.Proofs.YtdejcdmgcckmoaaGreatDoor

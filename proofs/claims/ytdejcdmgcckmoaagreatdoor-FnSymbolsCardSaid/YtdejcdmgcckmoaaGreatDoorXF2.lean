/- A part of the proofs about gocc: F2. -/
import Derived.Test.YtdejcdmgcckmoaaGreatDoorXF1
namespace Go.Proofs.YtdejcdmgcckmoaaGreatDoor
open Go.RowKit Lr

set_option maxRecDepth 20000 in
set_option maxHeartbeats 1000000 in
theorem SEqual_any {w : World} {n1 n2 : Nat} {S1 S2 : Str → Bool} {v1 v2 : Value} (h1 : SetV w v1 n1 S1) (h2 : SetV w v2 n2 S2) :
    Calls Tryz.prog 135 #[v1, v2] w fun e w' => ∃ b, e = .returned (.bool b) ∧ (b = true → ∀ s, S1 s = true → S2 s = true) ∧ New w w' := by
  go_enter Tryz.func135, Tryz.ntmps135
  go_wp2_with (first
    | (at_len; refine wpList_mlen _ rfl _ 82 4 rfl Tryz.underlying82 v1 n1 (bitF S1) rfl h1 ?_; intro k1 hk1)
    | (at_len; refine wpList_mlen _ rfl _ 82 4 rfl Tryz.underlying82 v2 n2 (bitF S2) rfl h2 ?_; intro k2 hk2)
    | (at_range; refine wpList_vrange _ rfl _ 82 4 rfl Tryz.underlying9 Tryz.underlying82 v1 n1 (bitF S1) rfl h1 ?_; intro w0 cnt0 hrg0 hg0))
  · go_ret
    exact ⟨false, rfl, by simp, New.refl _⟩
  · go_frame
    generalize ((k1 : Int) != (k2 : Int)) = bb
    go_loopg [4, 5] n1 (fun gk u4 u5 wr => ∃ (cnt : Nat) (L : Str → Bool), RangeV Tryz.prog 9 wr v1 w.heap.size n1 (bitF S1) L cnt ∧ cnt ≤ gk ∧ (∀ t, S1 t = true → L t = false → S2 t = true) ∧ w.grownBy wr none)
    case atStart =>
      refine ⟨cnt0, _, hrg0, hrg0.cnt_le, fun t e1 e2 => ?_, hg0⟩
      rw [bitF_some] at e2
      rw [e1] at e2
      cases e2
    case round =>
      clear hrg0 hg0
      obtain ⟨cnt, L, hrg, hc, hL, hg⟩ := hrel
      have HL := Lib.hid hL
      clear hL
      go_wp2_with (first | (at_next; refine wpList_vnext _ rfl _ rfl Tryz.underlying9 v1 w.heap.size n1 (bitF S1) L cnt rfl hrg ?_ ?_))
      · intro hl
        have HL2 := Lib.hid hl
        clear hl
        go_wp2
        go_ret
        exact ⟨true, rfl, fun _ s hs => HL.out s hs (HL2.out s), hg.os, hg.tape, hg.output, hg.size, fun k hk => hg.block k hk (by simp)⟩
      · intro s u w1 cnt1 hsl hLs hfs hrg1 hlt hg1 hsz1 hent
        have hgn : w.grownBy w1 none := hg.andThen hg1 (by intro j e; injection e with e; left; omega)
        have h2' := h2.kept hgn (by simp)
        have HS := Lib.hid (And.intro hLs hfs)
        clear hrg hLs hfs hsz1 hg hg1
        have hbb := bitF_some S2 s
        cases hs2 : S2 s with
        | true =>
          rw [hs2] at hbb
          have H2 := Lib.hid hs2
          clear hs2
          go_wp2_with (first | (at_lookup; refine wpList_vlook_ok _ rfl _ _ 82 4 rfl Tryz.underlying9 Tryz.underlying82 (z4 _) v2 n2 (bitF S2) rfl h2' s rfl (by omega) ?_; rw [hbb]))
          go_roundg cnt1
          case measure => omega
          case rel =>
            refine ⟨cnt1, _, hrg1, Nat.le_refl _, fun t e1 e2 => ?_, hgn⟩
            by_cases e : t = s
            · subst e; exact H2.out
            · exact HL.out t e1 (by simpa [e] using e2)
        | false =>
          rw [hs2] at hbb
          clear hs2
          go_wp2_with (first | (at_lookup; refine wpList_vlook_ok _ rfl _ _ 82 4 rfl Tryz.underlying9 Tryz.underlying82 (z4 _) v2 n2 (bitF S2) rfl h2' s rfl (by omega) ?_; rw [hbb]))
          go_ret
          exact ⟨false, rfl, by simp, hgn.os, hgn.tape, hgn.output, hgn.size, fun k hk => hgn.block k hk (by simp)⟩
end Go.Proofs.YtdejcdmgcckmoaaGreatDoor

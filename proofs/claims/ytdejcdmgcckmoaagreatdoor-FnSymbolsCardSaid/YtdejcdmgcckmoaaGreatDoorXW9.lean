/- A part of the proofs about gocc: W9. -/
import Derived.Test.YtdejcdmgcckmoaaGreatDoorXW8
namespace Go.Proofs.YtdejcdmgcckmoaaGreatDoor
open Go.RowKit Lr

set_option maxRecDepth 20000 in
set_option maxHeartbeats 2000000 in
theorem wordy_any (v : Value) (g : Gram) (w : World) (h : GramAt w v g) (hm : Sm g) :
    Calls Tryz.prog 48 #[v] w (Gives w fun v' _ => ∃ a c L, v' = .slice a (List.length L) c ∧ Wordy g L) := by
  obtain ⟨a, cap, rfl⟩ := h.slice
  have hlen := hm.len
  have hhl := headsF_len g
  go_enter Tryz.func48, Tryz.ntmps48
  go_wp2
  go_loopw [9] (fun i wr => ∃ (k : Nat) (L : List Str) (v : Value), k ≤ g.length ∧ i = .int .i64 k ∧ wr.heap[w.heap.size + 1]? = some (.cells #[v] 24 (0, 0)) ∧ Strs wr w.heap.size v L ∧ Wordy g L ∧ New w wr)
    (fun i _ => g.length - (intOf i).toNat)
  case atStart =>
    refine ⟨0, [], _, Nat.zero_le _, rfl, ?_, (World.ownsRow_made w #[] 0 (Nat.le_refl _) (Nat.zero_le _) rfl).alloc _, ⟨List.nodup_nil, by simp⟩, ((New.refl _).alloc _).alloc _⟩
    have := heap_alloc_new (w.alloc (.cells #[] 9)) (.cells #[.slice (some ⟨w.heap.size, 0, none⟩) 0 0] 24)
    simpa using this
  case round =>
    obtain ⟨k, L, v, hk, rfl, hbox, hown, hL, hb⟩ := hrel
    have hLl := hL.len
    by_cases hlt : k < g.length
    · go_wp2
      go_loopw [13] (fun i wr => ∃ (j : Nat) (L : List Str) (v : Value), j ≤ g.length ∧ i = .int .i64 j ∧ wr.heap[w.heap.size + 1]? = some (.cells #[v] 24 (0, 0)) ∧ Strs wr w.heap.size v L ∧ Wordy g L ∧ New w wr)
        (fun i _ => g.length - (intOf i).toNat)
      case atStart => exact ⟨0, L, v, Nat.zero_le _, rfl, hbox, hown, hL, hb⟩
      case round =>
        clear hbox hown hL hb hLl
        obtain ⟨j, L, v, hj, rfl, hbox, hown, hL, hb⟩ := hrel
        have hLl := hL.len
        by_cases hlj : j < g.length
        · obtain ⟨b', o', a', cap', e', h1, h2, h3⟩ := h.elem hlj
          cases e'
          have c1 := hb.cell h1
          have c2 := hb.cell h2
          have c3 := cell_of_one hbox
          have l3 := lt_of_block hbox
          have hmem := List.getElem_mem hlj
          have hbl := hm.body _ hmem
          have hsz : w.heap.size ≤ wr.heap.size := hb.size
          obtain ⟨ao, co, rfl⟩ := owns_slice hown
          have hW : New wr (wr.alloc (.cells #[sv g[j].1, .slice a' g[j].2.length cap'] 67)) := (New.refl _).alloc _
          have hq := Lib.hid (Contains_str _ L g[j].1 (wr.alloc (.cells #[sv g[j].1, .slice a' g[j].2.length cap'] 67)) (hown.alloc _).at (by omega))
          cases hh : has L g[j].1 with
          | true =>
            rw [hh] at hq
            clear h h1 h2 hh
            go_wp2_with (first | (go_at_call 15; refine hq.out.mono ?_; rintro e w' ⟨rfl, rfl⟩))
            go_roundw
            case rel => exact ⟨j + 1, L, _, by omega, by go_num, hW.heap hbox, hown.alloc _, hL, hb.alloc _⟩
            case measure => simp [intOf]; omega
          | false =>
            rw [hh] at hq
            have hq2 := Lib.hid (ContainsFunc_str _ g[j].2 _ ((h3.new hb).new hW) (by omega) 94 #[.pointer (some ⟨w.heap.size + 1, 0, none⟩)] (fun s => greatB s && !has L s) enters94
              (fun k hk w' hn => wordy1_any _ L _ _ w' (hm.sym_pos hmem (List.getElem_mem hk)) (hn.cell (hW.cell c3)) (((hown.alloc _).at).new hn) (by omega)))
            have Hh := Lib.hid hh
            have p1 : (wr.alloc (.cells #[sv g[j].1, .slice a' g[j].2.length cap'] 67)).cell? ⟨wr.heap.size, 0, none⟩ = some (sv g[j].1) := by simp
            clear h h1 h2 hh
            cases ha : g[j].2.any fun s => greatB s && !has L s with
            | true =>
              rw [ha] at hq2
              clear ha
              go_wp2_with (first | (go_at_call 15; refine hq.out.mono ?_; rintro e w' ⟨rfl, rfl⟩) | (go_at_call 74; refine hq2.out.mono ?_; rintro e w1 ⟨rfl, hn1⟩))
              go_roundw
              case rel => exact ⟨j + 1, L, _, by omega, by go_num, hn1.heap (hW.heap hbox), Strs.new (hown.alloc _) hn1, hL, (hb.alloc _).trans hn1⟩
              case measure => simp [intOf]; omega
            | false =>
              rw [ha] at hq2
              have hL2 := hL.snoc hm hlj Hh.out ha
              clear ha
              go_wp2_with (first | (go_at_call 15; refine hq.out.mono ?_; rintro e w' ⟨rfl, rfl⟩) | (go_at_call 74; refine hq2.out.mono ?_; rintro e w1 ⟨rfl, hn1⟩; have q1 := hn1.cell p1; have q2 := hn1.cell (hW.cell c3); have q3 : Strs w1 _ _ _ := Strs.new (hown.alloc _) hn1; have q4 : w.heap.size ≤ w1.heap.size := Nat.le_trans hsz (Nat.le_trans hW.size hn1.size); have q5 := hn1.heap (hW.heap hbox); have q6 := (hb.alloc (.cells #[sv g[j].1, .slice a' g[j].2.length cap'] 67)).trans hn1; clear hn1 hq hq2 c1 c2 c3 p1 hW hown hbox hb) | (at_builtin; go_must (refine wpList_push _ rfl _ _ _ _ rfl T24 w.heap.size _ _ _ rfl q3 [_] rfl rfl _ _ rfl (by simp) (by omega) (by omega) (by omega) ?_)))
              intro v' w2 hown1 hgrow hne hat
              have r1 := hgrow.block (w.heap.size + 1) (lt_of_block q5) (fun e => ownBlock_ne q3 q5 (by decide) e.symm)
              have r2 := r1.trans q5
              have c4 := cell_of_one r2
              have f4 := free_of_one r2
              have hb2 : New w w2 := Below.push q6 q3 hgrow (by omega)
              have hown2 := Strs.push hown1
              obtain ⟨ao', co', rfl⟩ := owns_slice hown1
              have hown3 := ownsRow_setCell_other hown2 (a := ⟨w.heap.size + 1, 0, none⟩) (ownBlock_ne hown2 r2 (by decide)) (.slice ao' (L.length + 1) co')
              have r3 := one_setCell r2 (u := .slice ao' (L.length + 1) co')
              have hb3 := hb2.setCell (a := ⟨w.heap.size + 1, 0, none⟩) (by simp) (.slice ao' (L.length + 1) co')
              clear hgrow hne hat r1 r2 q1 q2 q3 q5 q6 hb2 hown1 hown2
              go_wp2
              go_roundw
              case rel => exact ⟨j + 1, L ++ [g[j].1], _, by omega, by go_num, r3, hown3, hL2, hb3⟩
              case measure => simp [intOf]; omega
        · go_wp2
          go_roundw
          case rel => exact ⟨k + 1, L, v, by omega, by go_num, hbox, hown, hL, hb⟩
          case measure => simp [intOf]; omega
    · obtain ⟨ao, co, rfl⟩ := owns_slice hown
      have c1 := cell_of_one hbox
      go_wp2
      go_ret
      exact ⟨_, rfl, ⟨_, _, L, rfl, hL⟩, hb⟩
end Go.Proofs.YtdejcdmgcckmoaaGreatDoor

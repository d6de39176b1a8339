/- A part of the proofs about gocc: W7. -/
import Derived.Test.YtdejcdmgcckmoaaGreatDoorXW6
namespace Go.Proofs.YtdejcdmgcckmoaaGreatDoor
open Go.RowKit Lr

theorem terminals_step {g : Gram} {k : Nat} (h : k < g.length) : terminalsF (g.take (k + 1)) = g[k].2.foldl addT (terminalsF (g.take k)) := by
  have := foldl_take (fun out (p : Prd) => p.2.foldl addT out) [] g default h
  simpa [terminalsF, List.getD, h] using this
theorem fold_step {l : List Str} {out : List Str} {j : Nat} (h : j < l.length) : (l.take (j + 1)).foldl addT out = addT ((l.take j).foldl addT out) l[j] := by
  have := foldl_take addT out l [] h
  simpa [List.getD, h] using this
theorem addT_yes {l : List Str} {s : Str} (h1 : greatB s = false) (h : has l s = false) : addT l s = l ++ [s] := by simp [addT, h, h1]
theorem addT_great {l : List Str} {s : Str} (h1 : greatB s = true) : addT l s = l := by simp [addT, h1]
theorem addT_has {l : List Str} {s : Str} (h1 : has l s = true) : addT l s = l := by simp [addT, h1]

set_option maxRecDepth 20000 in
set_option maxHeartbeats 1000000 in
theorem Terminals_any (v : Value) (g : Gram) (w : World) (h : GramAt w v g) (hm : Sm g) :
    Calls Tryz.prog 14 #[v] w (Gives w fun v' w' => Strs w' w.heap.size v' (terminalsF g)) := by
  obtain ⟨a, cap, rfl⟩ := h.slice
  have hlen := hm.len
  go_enter Tryz.func14, Tryz.ntmps14
  go_wp2
  go_loopw [3, 11] (fun out i wr => ∃ k : Nat, k ≤ g.length ∧ i = .int .i64 k ∧ Strs wr w.heap.size out (terminalsF (g.take k)) ∧ New w wr)
    (fun _ i _ => g.length - (intOf i).toNat)
  case atStart => exact ⟨0, Nat.zero_le _, rfl, World.ownsRow_made _ _ _ (Nat.le_refl _) (Nat.zero_le _) rfl, (New.refl _).alloc _⟩
  case round =>
    obtain ⟨k, hk, rfl, hown, hb⟩ := hrel
    by_cases hlt : k < g.length
    · obtain ⟨b, o, a', cap', rfl, h1, h2, h3⟩ := h.elem hlt
      have c1 := hb.cell h1
      have c2 := hb.cell h2
      have hT := Lib.hid (terminals_step hlt)
      have hmem := List.getElem_mem hlt
      have hbl := hm.body _ hmem
      clear h h1 h2
      go_wp2
      go_loopw [3, 18] (fun out i wq => ∃ j : Nat, j ≤ g[k].2.length ∧ i = .int .i64 j ∧ Strs wq w.heap.size out ((g[k].2.take j).foldl addT (terminalsF (g.take k))) ∧ New w wq)
        (fun _ i _ => g[k].2.length - (intOf i).toNat)
      case atStart => exact ⟨0, Nat.zero_le _, rfl, hown.alloc _, hb.alloc _⟩
      case round =>
        obtain ⟨j, hj, rfl, hown, hb⟩ := hrel
        by_cases hjl : j < g[k].2.length
        · obtain ⟨b2, o2, rfl, h4⟩ := h3.elem hjl
          have c3 := hb.cell h4
          have hS := Lib.hid (@fold_step g[k].2 (terminalsF (g.take k)) j hjl)
          have hsp := hm.sym_pos hmem (List.getElem_mem hjl)
          have hlen2 := terminals_part hm.body hlen k j hlt
          have hsz : w.heap.size ≤ wr.heap.size := hb.size
          clear h3 h4 c1 c2
          generalize hout : (g[k].2.take j).foldl addT (terminalsF (g.take k)) = outl at *
          have Hout := Lib.hid hout
          clear hout
          cases hg : greatB g[k].2[j] with
          | true =>
            have h1 := great_any g[k].2[j] wr hsp
            rw [hg] at h1
            have hq := Lib.hid h1
            have hS2 := Lib.hid (hS.out.trans (addT_great hg))
            clear h1 hg
            go_wp2_with (first | (go_at_call 43; refine hq.out.mono ?_; rintro e w' ⟨rfl, rfl⟩))
            go_roundw
            case rel => exact ⟨j + 1, by omega, by go_num, by rw [hS2.out]; exact hown, hb⟩
            case measure => simp [intOf]; omega
          | false =>
            have h1 := great_any g[k].2[j] wr hsp
            rw [hg] at h1
            have hq := Lib.hid h1
            have Hg := Lib.hid hg
            clear h1 hg
            go_wp2_with (first | (go_at_call 43; refine hq.out.mono ?_; rintro e w' ⟨rfl, rfl⟩) | (go_at_call 15; refine (Contains_str _ outl _ _ hown.at (by omega)).mono ?_; rintro e w' ⟨rfl, rfl⟩) | (at_builtin; go_must (refine wpList_push _ rfl _ _ _ _ rfl T24 w.heap.size _ _ _ rfl hown [_] rfl rfl _ _ rfl (by simp) (by omega) (by omega) (by omega) ?_)))
            · intro v' w1 hown1 hgrow hne hat
              have ht : (!has outl g[k].2[j]) = true := by assumption
              have hb1 : New w w1 := Below.push hb hown hgrow (by omega)
              have hown2 := Strs.push hown1
              clear hgrow hne hat
              go_wp2
              go_roundw
              case rel => exact ⟨j + 1, by omega, by go_num, by rw [hS.out, addT_yes Hg.out (by simpa using ht)]; exact hown2, hb1⟩
              case measure => simp [intOf]; omega
            · have ht : (!has outl g[k].2[j]) = false := by assumption
              go_roundw
              case rel => exact ⟨j + 1, by omega, by go_num, by rw [hS.out, addT_has (by simpa using ht)]; exact hown, hb⟩
              case measure => simp [intOf]; omega
        · have e := Lib.hid (List.take_of_length_le (l := g[k].2) (i := j) (by omega))
          rw [e.out, ← hT.out] at hown
          go_wp2
          go_roundw
          case rel => exact ⟨k + 1, by omega, by go_num, hown, hb⟩
          case measure => simp [intOf]; omega
    · go_wp2
      go_ret
      rw [List.take_of_length_le (by omega)] at hown
      exact ⟨_, rfl, hown, hb⟩
end Go.Proofs.YtdejcdmgcckmoaaGreatDoor

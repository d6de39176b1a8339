/- A part of the proofs about gocc: G2. -/
import Derived.Test.YtdejcdmgcckmoaaGreatDoorXG1
import Derived.Test.YtdejcdmgcckmoaaGreatDoorXF3
import Derived.Deep.LoopGhost
namespace Go.Proofs.YtdejcdmgcckmoaaGreatDoor
open Go.RowKit Lr

theorem filter_take {l : List Str} {p : Str → Bool} {k : Nat} (h : k < l.length) : (l.take (k + 1)).filter p = (l.take k).filter p ++ if p l[k] then [l[k]] else [] := by
  rw [List.take_add_one, List.filter_append]
  simp [h, List.filter_cons]

set_option maxRecDepth 20000 in
set_option maxHeartbeats 2000000 in
theorem ListTerminals_any {w : World} {B p m1 m2 m3 : Nat} {r2 r4 r5 : Value} {tm nt nk : List Str} {n : Nat} (st : SymSt w B p m1 m2 m3 r2 r4 r5 tm nt nk n) (hs : ∀ s ∈ tm, s.length ≤ 1000000) (hl : tm.length ≤ 100000) :
    Calls Tryz.prog 51 #[.pointer (some ⟨p, 0, none⟩)] w fun e w' => ∃ v, e = .returned v ∧ StrsAt w' v (tm.filter fun s => !has nk s) ∧ New w w' := by
  have c0 := cell_of_blk st.blk 5
  simp only [List.getElem?_toArray, List.getElem?_cons_zero, List.getElem?_cons_succ] at c0
  have hrow := st.tmr.at
  obtain ⟨a, k5, rfl⟩ := owns_slice st.tmr
  have hmk : ∀ w, (Instr.makeSlice 24 (.int .i64 0) (.int .i64 16)).run Tryz.prog w = .ok (.slice (some ⟨w.heap.size, 0, none⟩) 0 16) (w.alloc (.cells (Array.replicate 16 (.string ByteArray.empty)) 9)) := fun _ => by kernel_rfl
  have HST := Lib.hid (And.intro st (And.intro hrow hs))
  have hown0 : Strs (w.alloc (.cells (Array.replicate 16 (.string ByteArray.empty)) 9)) w.heap.size (.slice (some ⟨w.heap.size, 0, none⟩) 0 16) [] := row_empty (heap_alloc_new w _) (Nat.le_refl _)
  have hn0 : New w (w.alloc (.cells (Array.replicate 16 (.string ByteArray.empty)) 9)) := (New.refl w).alloc _
  have lp := lt_of_block st.blk
  have H0 := Lib.hid (And.intro hown0 hn0)
  clear st hrow hs hown0 hn0
  go_enter Tryz.func51, Tryz.ntmps51
  go_wp2
  clear hmk
  go_loopg [3, 12] tm.length (fun gk v3 i wr => ∃ k, k ≤ tm.length ∧ gk = tm.length - k ∧ i = .int .i64 k ∧ Strs wr w.heap.size v3 ((tm.take k).filter fun s => !has nk s) ∧ New w wr)
  case atStart => exact ⟨0, Nat.zero_le _, rfl, rfl, H0.out.1, H0.out.2⟩
  case round =>
    obtain ⟨k, hk, rfl, rfl, hown, hn⟩ := hrel
    by_cases hlt : k < tm.length
    · obtain ⟨b, o, e, c1⟩ := (HST.out.2.1.new hn).elem hlt
      cases e
      have hq := Lib.hid (IsTerminal_any (HST.out.1.new hn) tm[k] (HST.out.2.2 _ (List.getElem_mem hlt)))
      have hB := hn.size
      have htk := filter_take (p := fun s => !has nk s) hlt
      have hfl := List.length_filter_le (fun s => !has nk s) (tm.take k)
      have htl := List.length_take_le k tm
      cases hh : has nk tm[k] with
      | true =>
        rw [hh] at hq htk
        have HT := Lib.hid htk
        clear hh htk
        go_wp2_with (go_at_call 100; refine hq.out.mono ?_; rintro e w' ⟨rfl, rfl⟩)
        go_roundg (tm.length - (k + 1))
        case measure => omega
        case rel => exact ⟨k + 1, by omega, rfl, by go_num, by rw [HT.out]; simpa using hown, hn⟩
      | false =>
        rw [hh] at hq htk
        have HT := Lib.hid htk
        clear hh htk
        go_wp2_with (first | (go_at_call 100; refine hq.out.mono ?_; rintro e w' ⟨rfl, rfl⟩) | (at_builtin; go_must (refine wpList_push _ rfl _ _ _ _ rfl T24 w.heap.size _ _ _ rfl hown [_] rfl rfl _ _ rfl (by simp) (by omega) (by omega) (by omega) ?_)))
        intro v' w2 hown2 hgrow hne hat
        have hn2 : New w w2 := Below.push hn hown hgrow (by omega)
        have hown3 := Strs.push hown2
        clear hgrow hown hown2
        go_wp2
        go_roundg (tm.length - (k + 1))
        case measure => omega
        case rel => exact ⟨k + 1, by omega, rfl, by go_num, by rw [HT.out]; exact hown3, hn2⟩
    · have ht : tm.take k = tm := List.take_of_length_le (by omega)
      rw [ht] at hown
      have hat := hown.at
      obtain ⟨a3, k3, rfl⟩ := owns_slice hown
      have HA := Lib.hid hat
      clear hat hown ht
      go_wp2
      go_ret
      exact ⟨_, rfl, HA.out, hn⟩
end Go.Proofs.YtdejcdmgcckmoaaGreatDoor

/- A part of the proofs about gocc: F6. -/
import Derived.Test.YtdejcdmgcckmoaaGreatDoorXF5
import Derived.Laws.MakeOwn
namespace Go.Proofs.YtdejcdmgcckmoaaGreatDoor
open Go.RowKit Lr

theorem make24 (n : Nat) (hn : n ≤ 1000000) (w : World) : ∃ arr : Array Value, arr.size = n ∧ (Instr.makeSlice 24 (.int .i64 n) (.int .i64 n)).run Tryz.prog w = .ok (.slice (some ⟨w.heap.size, 0, none⟩) n n) (w.alloc (.cells arr 9)) := by
  obtain ⟨i, hi, hz0, hz1, hz2⟩ := info_parts T24.row
  have := run_makeSlice (P := Tryz.prog) w 24 9 i _ T24.und hi hz0 .i64 .i64 n n (by omega) (Int.le_refl _) (by rw [hz1]; simp; omega) (by rw [hz2]; omega) (by omega)
  refine ⟨_, ?_, this⟩
  rw [size_madeCells, hz1]
  simp

set_option maxRecDepth 20000 in
set_option maxHeartbeats 1000000 in
theorem stringList_any (v : Value) (l : List Sy) (w : World) (h : SysAt w v l) (hl : l.length ≤ 1000) :
    Calls Tryz.prog 134 #[v] w fun e w' => ∃ v', e = .returned v' ∧ StrsAt w' v' (l.map Sy.str) ∧ New w w' := by
  obtain ⟨a, cap, rfl⟩ := h.slice
  obtain ⟨arr, harr, hmk⟩ := make24 l.length (by omega) w
  have H := Lib.hid h
  have HA := Lib.hid harr
  clear h harr
  go_enter Tryz.func134, Tryz.ntmps134
  go_wp2
  clear hmk
  go_loopg [11] l.length (fun gk i wr => ∃ (k : Nat) (arr : Array Value), k ≤ l.length ∧ gk = l.length - k ∧ i = .int .i64 k ∧ arr.size = l.length ∧ wr.heap[w.heap.size]? = some (.cells arr 9 (0, 0)) ∧ (∀ j, (hj : j < k) → (hj2 : j < l.length) → arr[j]? = some (sv l[j].str)) ∧ New w wr)
  case atStart => exact ⟨0, arr, Nat.zero_le _, rfl, rfl, HA.out, heap_alloc_new w _, fun j hj => by omega, (New.refl w).alloc _⟩
  case round =>
    obtain ⟨k, arr, hk, rfl, rfl, harr, hblk, hj, hn⟩ := hrel
    by_cases hlt : k < l.length
    · obtain ⟨b, o, e, c1⟩ := H.out.elem hlt
      cases e
      have c1 := hn.cell c1
      obtain ⟨u0, c2⟩ : ∃ u, wr.cell? ⟨w.heap.size, k, none⟩ = some u := ⟨arr[k], by rw [cell_of_blk hblk]; simp [harr, hlt]⟩
      have f2 := free_of_blk hblk k
      have HJ := Lib.hid (And.intro hj harr)
      have hset := set_of_blk hblk k (sv l[k].str)
      have HS := Lib.hid hset
      clear hj harr hset hblk
      generalize hsy : l[k] = sy at *
      have HY := Lib.hid hsy
      clear hsy
      have key : ∀ wr' : World, wr'.heap[w.heap.size]? = some (.cells (arr.setIfInBounds k (sv sy.str)) 9 (0, 0)) → (∃ (k' : Nat) (arr' : Array Value), k' ≤ l.length ∧ l.length - (k + 1) = l.length - k' ∧ Value.int .i64 ((k : Int) + 1) = .int .i64 k' ∧ arr'.size = l.length ∧ wr'.heap[w.heap.size]? = some (.cells arr' 9 (0, 0)) ∧ (∀ j, (hj : j < k') → (hj2 : j < l.length) → arr'[j]? = some (sv l[j].str))) := by
        intro wr' hb
        refine ⟨k + 1, _, by omega, rfl, by go_num, by simp [HJ.out.2], hb, fun j hj1 hj2 => ?_⟩
        by_cases e : j = k
        · subst e
          have hsz : j < arr.size := by rw [HJ.out.2]; exact hj2
          rw [Array.getElem?_setIfInBounds]
          simp [hsz, HY.out]
        · rw [Array.getElem?_setIfInBounds_ne (fun h => e h.symm)]
          exact HJ.out.1 j (by omega) hj2
      have HK := Lib.hid key
      clear key
      cases sy with
      | nt s =>
        simp only [Sy.val] at c1
        have hmm := met142
        go_wp2_with (first | (go_at_call 302; refine (SymStr_nt _ _).mono ?_; rintro e w' ⟨rfl, rfl⟩))
        go_roundg (l.length - (k + 1))
        case measure => omega
        case rel =>
          obtain ⟨k', arr', q1, q2, q3, q4, q5, q6⟩ := HK.out _ HS.out
          exact ⟨k', arr', q1, q2, q3, q4, q5, q6, hn.setCell (Nat.le_refl _) _⟩
      | tk s =>
        simp only [Sy.val] at c1
        have hmm := met143
        go_wp2_with (first | (go_at_call 305; refine (SymStr_tk _ _).mono ?_; rintro e w' ⟨rfl, rfl⟩))
        go_roundg (l.length - (k + 1))
        case measure => omega
        case rel =>
          obtain ⟨k', arr', q1, q2, q3, q4, q5, q6⟩ := HK.out _ HS.out
          exact ⟨k', arr', q1, q2, q3, q4, q5, q6, hn.setCell (Nat.le_refl _) _⟩
      | em =>
        simp only [Sy.val] at c1
        have hmm := met144
        go_wp2_with (first | (go_at_call 308; refine (SymStr_em _ _).mono ?_; rintro e w' ⟨rfl, rfl⟩))
        go_roundg (l.length - (k + 1))
        case measure => omega
        case rel =>
          obtain ⟨k', arr', q1, q2, q3, q4, q5, q6⟩ := HK.out _ HS.out
          exact ⟨k', arr', q1, q2, q3, q4, q5, q6, hn.setCell (Nat.le_refl _) _⟩
    · obtain rfl : k = l.length := by omega
      go_wp2
      go_ret
      refine ⟨_, rfl, ⟨_, l.length, by simp, by simp, fun _ => ⟨w.heap.size, 0, rfl, fun j hj' => ?_⟩⟩, hn⟩
      simp only [List.length_map] at hj'
      rw [cell_of_blk hblk, Nat.zero_add, hj j hj' hj']
      simp [List.getD, hj']
end Go.Proofs.YtdejcdmgcckmoaaGreatDoor

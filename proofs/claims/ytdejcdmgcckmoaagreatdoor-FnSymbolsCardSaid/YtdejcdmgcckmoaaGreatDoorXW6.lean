/- A part of the proofs about gocc: W6. -/
import Derived.Test.YtdejcdmgcckmoaaGreatDoorXW5
namespace Go.Proofs.YtdejcdmgcckmoaaGreatDoor
open Go.RowKit Lr

theorem T24 : SliceTy Tryz.prog 24 9 1 16 (.string ByteArray.empty) := ⟨Tryz.underlying24, by kernel_rfl, rfl, by omega⟩

/-- A row of the call's own reads as a slice of strings. -/
theorem StrsAt.of_owns {w : World} {base : Nat} {e : TypeId} {v : Value} {l : List Str} (h : w.ownsRow base e 1 v l.length (l.map sv)) : StrsAt w v l := by
  obtain ⟨hlen, hh⟩ := h
  rcases hh with ⟨rfl, h0⟩ | ⟨g, cap, cur, rfl, hb, hg, h1, h2, h3, h4⟩
  · exact ⟨none, 0, by rw [h0], by omega, fun h => by omega⟩
  · refine ⟨some ⟨g, 0, none⟩, cap, rfl, h1, fun _ => ⟨g, 0, rfl, fun j hj => ?_⟩⟩
    have hcell := World.ownsRow.cells (w := w) (base := base) (e := e) (size := 1) (v := .slice (some ⟨g, 0, none⟩) l.length cap) (n := l.length) (xs := l.map sv) ⟨hlen, .inr ⟨g, cap, cur, rfl, hb, hg, h1, h2, h3, h4⟩⟩ (g := g) rfl j (sv l[j]) (by simp [hj])
    have ea : (⟨g, 0, none⟩ : Addr).add j = ⟨g, 0 + j, none⟩ := by unfold Addr.add; split <;> simp_all
    rw [ea] at hcell
    rw [hcell]
    simp [hj]

/-- A slice value that owns its row is a slice. -/
theorem owns_slice {w : World} {base : Nat} {e : TypeId} {size : Nat} {v : Value} {n : Nat} {xs : List Value} (h : w.ownsRow base e size v n xs) : ∃ a cap, v = .slice a n cap := by
  obtain ⟨_, hh⟩ := h
  rcases hh with ⟨rfl, h0⟩ | ⟨g, cap, cur, rfl, _⟩
  · exact ⟨none, 0, by rw [h0]⟩
  · exact ⟨_, _, rfl⟩

/-- A row of strings of the call's own. -/
abbrev Strs (w : World) (B : Nat) (v : Value) (l : List Str) : Prop := w.ownsRow B 9 1 v l.length (l.map sv)
theorem Strs.at {w : World} {B : Nat} {v : Value} {l : List Str} (h : Strs w B v l) : StrsAt w v l := StrsAt.of_owns h
theorem Strs.new {w w' : World} {B : Nat} {v : Value} {l : List Str} (h : Strs w B v l) (hn : New w w') : Strs w' B v l := ownsRow_new h hn
theorem Strs.alloc {w : World} {B : Nat} {v : Value} {l : List Str} (h : Strs w B v l) (o : Obj) : Strs (w.alloc o) B v l := World.ownsRow.alloc h o
theorem Strs.push {w : World} {B : Nat} {v : Value} {l : List Str} {s : Str} (h : w.ownsRow B 9 1 v (l.length + 1) (l.map sv ++ [sv s])) : Strs w B v (l ++ [s]) := by
  unfold Strs; simpa using h

theorem headsF_take {g : Gram} {k : Nat} (h : k < g.length) : headsF (g.take (k + 1)) = addTo (headsF (g.take k)) g[k].1 := by
  have := foldl_take (fun out (p : Prd) => addTo out p.1) [] g default h
  simpa [headsF, List.getD, h] using this
theorem addTo_yes {l : List Str} {s : Str} (h : has l s = true) : addTo l s = l := by simp [addTo, h]
theorem addTo_no {l : List Str} {s : Str} (h : has l s = false) : addTo l s = l ++ [s] := by simp [addTo, h]

set_option maxRecDepth 20000 in
set_option maxHeartbeats 400000 in
theorem Heads_any (v : Value) (g : Gram) (w : World) (h : GramAt w v g) (hl : g.length ≤ 100000) :
    Calls Tryz.prog 16 #[v] w (Gives w fun v' w' => Strs w' w.heap.size v' (headsF g)) := by
  obtain ⟨a, cap, rfl⟩ := h.slice
  go_enter Tryz.func16, Tryz.ntmps16
  go_wp2
  go_loopw [3, 9] (fun out i wr => ∃ k : Nat, k ≤ g.length ∧ i = .int .i64 k ∧ Strs wr w.heap.size out (headsF (g.take k)) ∧ New w wr)
    (fun _ i _ => g.length - (intOf i).toNat)
  case atStart => exact ⟨0, Nat.zero_le _, rfl, World.ownsRow_made _ _ _ (Nat.le_refl _) (Nat.zero_le _) rfl, (New.refl _).alloc _⟩
  case round =>
    obtain ⟨k, hk, rfl, hown, hb⟩ := hrel
    by_cases hlt : k < g.length
    · obtain ⟨b, o, a', cap', rfl, h1, h2, h3⟩ := h.elem hlt
      have c1 := hb.cell h1
      have c2 := hb.cell h2
      have hlen := headsF_len (g.take k)
      simp only [List.length_take] at hlen
      have hT := Lib.hid (headsF_take hlt)
      have hsz : w.heap.size ≤ wr.heap.size := hb.size
      clear h h1 h2 h3
      go_wp2_with (first | (go_at_call 15; refine (Contains_str _ (headsF (g.take k)) _ _ (hown.alloc _).at (by omega)).mono ?_; rintro e w' ⟨rfl, rfl⟩) | (at_builtin; go_must (refine wpList_push _ rfl _ _ _ _ rfl T24 w.heap.size _ _ _ rfl (hown.alloc _) [_] rfl rfl _ _ rfl (by simp) (by omega) (by omega) (by simp; omega) ?_)))
      · intro v' w1 hown1 hgrow hne hat
        have ht : (!has (headsF (g.take k)) g[k].1) = true := by assumption
        have hb1 : New w w1 := Below.push (hb.alloc _) (hown.alloc _) hgrow (by simp; omega)
        have hown2 := Strs.push hown1
        clear hgrow hne hat
        go_wp2
        go_roundw
        case rel => exact ⟨k + 1, by omega, by go_num, by rw [hT.out, addTo_no (by simpa using ht)]; exact hown2, hb1⟩
        case measure => simp [intOf]; omega
      · have ht : (!has (headsF (g.take k)) g[k].1) = false := by assumption
        go_roundw
        case rel => exact ⟨k + 1, by omega, by go_num, by rw [hT.out, addTo_yes (by simpa using ht)]; exact hown.alloc _, hb.alloc _⟩
        case measure => simp [intOf]; omega
    · go_wp2
      go_ret
      rw [List.take_of_length_le (by omega)] at hown
      exact ⟨_, rfl, hown, hb⟩
end Go.Proofs.YtdejcdmgcckmoaaGreatDoor

/- A part of the proofs about gocc: W8. -/
import Derived.Test.YtdejcdmgcckmoaaGreatDoorXW7
namespace Go.Proofs.YtdejcdmgcckmoaaGreatDoor
open Go.RowKit Lr

theorem ownsRow_one (w : World) (e : TypeId) (x : Value) : (w.alloc (.cells #[x] e)).ownsRow w.heap.size e 1 (.slice (some ⟨w.heap.size, 0, none⟩) 1 1) 1 [x] :=
  ⟨rfl, .inr ⟨w.heap.size, 1, _, rfl, Nat.le_refl _, heap_alloc_new w _, Nat.le_refl _, by unfold maxLen; omega, rfl, rfl⟩⟩

theorem start_get : ∀ {g : Gram} (h : 0 < g.length), Lr.start g = g[0].1
  | _ :: _, _ => rfl

/-- All symbols that `reached` may come to. -/
def symsU (g : Gram) : List Str := Lr.start g :: g.flatMap (·.2)
theorem flat_len : ∀ {g : Gram}, (∀ p ∈ g, p.2.length ≤ 4) → (g.flatMap (·.2)).length ≤ 4 * g.length
  | [], _ => by simp
  | p :: g, h => by
    have h1 := flat_len (g := g) (fun q hq => h q (by simp [hq]))
    have h2 := h p (by simp)
    simp only [List.flatMap_cons, List.length_append, List.length_cons]; omega
theorem symsU_len {g : Gram} (hm : Sm g) : (symsU g).length ≤ 49 := by
  have h1 := flat_len hm.body
  have h2 := hm.len
  simp only [symsU, List.length_cons]; omega
theorem symsU_mem {g : Gram} {k j : Nat} (hk : k < g.length) (hj : j < g[k].2.length) : g[k].2[j] ∈ symsU g :=
  List.mem_cons_of_mem _ (List.mem_flatMap.2 ⟨g[k], List.getElem_mem hk, List.getElem_mem hj⟩)
/-- Rows without doubles of these symbols. -/
def InU (g : Gram) (L : List Str) : Prop := L.Nodup ∧ ∀ x ∈ L, x ∈ symsU g

theorem InU.len {g : Gram} (hm : Sm g) {L : List Str} (h : InU g L) : L.length ≤ 49 := Nat.le_trans (nodup_le h.1 h.2) (symsU_len hm)
theorem InU.snoc {g : Gram} {L : List Str} {s : Str} (h : InU g L) (hs : s ∈ symsU g) (hn : has L s = false) : InU g (L ++ [s]) := by
  refine ⟨?_, ?_⟩
  · rw [List.nodup_append]
    refine ⟨h.1, by simp, ?_⟩
    intro a ha b hb e
    simp at hb
    subst hb; subst e
    exact absurd ha (has_false.1 hn)
  · intro x hx
    rcases List.mem_append.1 hx with hx | hx
    · exact h.2 x hx
    · simp at hx; subst hx; exact hs

set_option maxRecDepth 20000 in
set_option maxHeartbeats 2000000 in
theorem reached_any (v : Value) (g : Gram) (w : World) (h : GramAt w v g) (hm : Sm g) :
    Calls Tryz.prog 47 #[v] w (Gives w fun v' _ => ∃ a n c, v' = .slice a n c ∧ n ≤ 49) := by
  obtain ⟨a, cap, rfl⟩ := h.slice
  have hlen := hm.len
  obtain ⟨b, o, a0, cap0, rfl, h1, h2, h3⟩ := h.elem hm.pos
  have hst := start_get hm.pos
  have Hst := Lib.hid hst
  have hpos := hm.pos
  simp only [Nat.zero_mul, Nat.add_zero] at h1
  clear hst h2 h3
  go_enter Tryz.func47, Tryz.ntmps47
  go_wp2
  clear h1
  go_loopw [3, 4] (fun out i wr => ∃ (k : Nat) (L : List Str), k ≤ L.length ∧ i = .int .i64 k ∧ Strs wr w.heap.size out L ∧ InU g L ∧ New w wr)
    (fun _ i _ => 60 - (intOf i).toNat)
  case atStart => exact ⟨0, [g[0].1], Nat.zero_le _, rfl, ownsRow_one _ _ _, ⟨by simp, by intro x hx; simp at hx; subst hx; rw [← Hst.out]; exact List.mem_cons_self ..⟩, (New.refl _).alloc _⟩
  case round =>
    obtain ⟨k, L, hk, rfl, hown, hU, hb⟩ := hrel
    have hL := hU.len hm
    obtain ⟨ao, co, rfl⟩ := owns_slice hown
    by_cases hlt : k < L.length
    · go_wp2
      go_loopw [3, 22] (fun out i wr => ∃ (j : Nat) (L : List Str), j ≤ g.length ∧ i = .int .i64 j ∧ k < L.length ∧ Strs wr w.heap.size out L ∧ InU g L ∧ New w wr)
        (fun _ i _ => g.length - (intOf i).toNat)
      case atStart => exact ⟨0, L, Nat.zero_le _, rfl, hlt, hown, hU, hb⟩
      case round =>
        clear hown hU hb hL hlt hk
        obtain ⟨j, L, hj, rfl, hkL, hown, hU, hb⟩ := hrel
        have hL := hU.len hm
        obtain ⟨ao, co, rfl⟩ := owns_slice hown
        by_cases hlt : j < g.length
        · obtain ⟨b', o', a', cap', e', h1, h2, h3⟩ := h.elem hlt
          cases e'
          have c1 := hb.cell h1
          have c2 := hb.cell h2
          have hmem := List.getElem_mem hlt
          obtain ⟨bo, oo, rfl, c3⟩ := hown.at.elem hkL
          have l3 := lt_of_cell c3
          have hbl := hm.body _ hmem
          clear h1 h2
          cases ht : (!(g[j].1 == L[k])) with
          | true =>
            go_wp2
            go_quiet (fail)
            go_wp2
            go_roundw
            case rel => exact ⟨j + 1, L, by omega, by go_num, hkL, ((hown.alloc _).new ((New.refl _).drewN _)), hU, (hb.alloc _).drewN _⟩
            case measure => simp [intOf]; omega
          | false =>
            go_wp2
            go_quiet (fail)
            go_wp2
            have hown0 : Strs ((wr.alloc (.cells #[sv g[j].1, .slice a' g[j].2.length cap'] 67)).drewN nq) w.heap.size _ L := (hown.alloc _).new ((New.refl _).drewN _)
            have hb0 : New w ((wr.alloc (.cells #[sv g[j].1, .slice a' g[j].2.length cap'] 67)).drewN nq) := (hb.alloc _).drewN _
            clear hown hb c1 c2 c3 l3
            go_loopw [3, 36] (fun out i wr => ∃ (m : Nat) (L : List Str), m ≤ g[j].2.length ∧ i = .int .i64 m ∧ k < L.length ∧ Strs wr w.heap.size out L ∧ InU g L ∧ New w wr)
              (fun _ i _ => g[j].2.length - (intOf i).toNat)
            case atStart => exact ⟨0, L, Nat.zero_le _, rfl, hkL, hown0, hU, hb0⟩
            case round =>
              clear hown0 hU hb0 hL hj
              obtain ⟨m, L, hmm, rfl, hkL, hown, hU, hb⟩ := hrel
              have hL := hU.len hm
              by_cases hml : m < g[j].2.length
              · obtain ⟨b2, o2, rfl, h4⟩ := h3.elem hml
                have c4 := hb.cell h4
                have hsp := hm.sym_pos hmem (List.getElem_mem hml)
                have hsz : w.heap.size ≤ wr.heap.size := hb.size
                clear h4 h3
                have hq := Lib.hid (great_any g[j].2[m] wr hsp)
                cases hg : greatB g[j].2[m] with
                | true =>
                  rw [hg] at hq
                  clear hg
                  go_wp2_with (first | (go_at_call 43; refine hq.out.mono ?_; rintro e w' ⟨rfl, rfl⟩) | (go_at_call 15; refine (Contains_str _ L _ _ hown.at (by omega)).mono ?_; rintro e w' ⟨rfl, rfl⟩) | (at_builtin; go_must (refine wpList_push _ rfl _ _ _ _ rfl T24 w.heap.size _ _ _ rfl hown [_] rfl rfl _ _ rfl (by simp) (by omega) (by omega) (by omega) ?_)))
                  · intro v' w1 hown1 hgrow hne hat
                    have ht : (!has L g[j].2[m]) = true := by assumption
                    have hb1 : New w w1 := Below.push hb hown hgrow (by omega)
                    have hown2 := Strs.push hown1
                    clear hgrow hne hat
                    go_wp2
                    go_roundw
                    case rel => exact ⟨m + 1, L ++ [g[j].2[m]], by omega, by go_num, by simp; omega, hown2, hU.snoc (symsU_mem hlt hml) (by simpa using ht), hb1⟩
                    case measure => simp [intOf]; omega
                  · go_roundw
                    case rel => exact ⟨m + 1, L, by omega, by go_num, hkL, hown, hU, hb⟩
                    case measure => simp [intOf]; omega
                | false =>
                  rw [hg] at hq
                  clear hg
                  go_wp2_with (first | (go_at_call 43; refine hq.out.mono ?_; rintro e w' ⟨rfl, rfl⟩))
                  go_roundw
                  case rel => exact ⟨m + 1, L, by omega, by go_num, hkL, hown, hU, hb⟩
                  case measure => simp [intOf]; omega
              · go_wp2
                go_roundw
                case rel => exact ⟨j + 1, L, by omega, by go_num, hkL, hown, hU, hb⟩
                case measure => simp [intOf]; omega
        · go_wp2
          go_roundw
          case rel => exact ⟨k + 1, L, by omega, by go_num, hown, hU, hb⟩
          case measure => simp [intOf]; omega
    · go_wp2
      go_ret
      exact ⟨_, rfl, ⟨_, _, _, rfl, hL⟩, hb⟩
end Go.Proofs.YtdejcdmgcckmoaaGreatDoor

/- A part of the proofs about gocc: W11. -/
import Derived.Test.YtdejcdmgcckmoaaGreatDoorXW10
namespace Go.Proofs.YtdejcdmgcckmoaaGreatDoor
open Go.RowKit Lr

theorem letter_int {c : UInt8} (h : letterB c = true) : (97 ≤ (c.toNat : Int) ∧ (c.toNat : Int) ≤ 122) ∨ (65 ≤ (c.toNat : Int) ∧ (c.toNat : Int) ≤ 90) := by
  unfold letterB at h; simp at h; omega
theorem ne_of_len {s t : Str} (h : s.length ≤ 4) (ht : 4 < t.length) : (s == t) = false := by
  rw [beq_eq_false_iff_ne]; intro e; rw [e] at h; omega

set_option maxRecDepth 20000 in
set_option maxHeartbeats 2000000 in
theorem isSymbol_ok (s : Str) (w : World) (h : symbolOkB s = true) :
    Calls Tryz.prog 95 #[sv s] w fun e w' => e = .returned (.bool true) ∧ w = w' := by
  have hlen := symbolOk_le h
  have hpos := symbolOk_pos h
  have hlet := symbolOk_letter h
  have g1 := ne_of_len (t := [101, 109, 112, 116, 121]) hlen (by simp)
  have g2 := ne_of_len (t := [101, 114, 114, 111, 114]) hlen (by simp)
  have g3 := ne_of_len (t := [73, 78, 86, 65, 76, 73, 68]) hlen (by simp)
  go_enter Tryz.func95, Tryz.ntmps95
  go_wp2
  go_loop [3] (fun i => ∃ k : Nat, k ≤ s.length ∧ i = .int .i64 k) (fun i => s.length - (intOf i).toNat)
  case atStart => exact ⟨0, Nat.zero_le _, rfl⟩
  case round =>
    obtain ⟨k, hk, rfl⟩ := hrel
    by_cases hlt : k < s.length
    · have hsz : k < ({ data := s.toArray } : ByteArray).size := hlt
      have hl : (97 ≤ ((({ data := s.toArray } : ByteArray)[k]'hsz).toNat : Int) ∧ ((({ data := s.toArray } : ByteArray)[k]'hsz).toNat : Int) ≤ 122) ∨ (65 ≤ ((({ data := s.toArray } : ByteArray)[k]'hsz).toNat : Int) ∧ ((({ data := s.toArray } : ByteArray)[k]'hsz).toNat : Int) ≤ 90) := letter_int (hlet s[k] (List.getElem_mem hlt))
      clear hlet
      rcases hl with hl | hl
      · obtain ⟨l1, l2⟩ := hl
        go_wp2
        all_goals (go_round
                   case rel => exact ⟨k + 1, by omega, by go_num⟩
                   case measure => simp [intOf]; omega)
      · obtain ⟨l1, l2⟩ := hl
        go_wp2
        all_goals (go_round
                   case rel => exact ⟨k + 1, by omega, by go_num⟩
                   case measure => simp [intOf]; omega)
    · have hsz : ¬ k < ({ data := s.toArray } : ByteArray).size := hlt
      clear hlet
      go_wp2
      go_ret
      exact ⟨rfl, rfl⟩

theorem enters101 : ∀ args w, (callFunc 101 args).run Tryz.prog w = .ok (.enter 101 args) w := enters_of Tryz.func101 (by kernel_rfl) rfl
set_option maxHeartbeats 400000 in
theorem implHead1_any (s t : Str) (a : Option Addr) (n c b : Nat) (w : World) (h : w.cell? ⟨b, 0, none⟩ = some (sv t)) :
    Calls Tryz.prog 101 #[.agg #[sv s, .slice a n c], .pointer (some ⟨b, 0, none⟩)] w fun e w' => e = .returned (.bool (s == t)) ∧ New w w' := by
  have hb := lt_of_cell h
  go_enter Tryz.func101, Tryz.ntmps101
  go_wp2
  go_ret
  exact ⟨rfl, (New.refl _).alloc _⟩

set_option maxHeartbeats 400000 in
theorem implHead_any (v : Value) (g : Gram) (s : Str) (w : World) (h : GramAt w v g) (hl : g.length ≤ 100000) :
    Calls Tryz.prog 56 #[v, sv s] w fun e w' => e = .returned (.bool (isHead g s)) ∧ New w w' := by
  have hq := Lib.hid (ContainsFunc_prod v g (w.alloc (.cells #[sv s] 9)) (h.new ((New.refl _).alloc _)) hl 101 #[.pointer (some ⟨w.heap.size, 0, none⟩)] (fun p => p.1 == s) enters101
    (fun k hk w' a' cap' hn _ => implHead1_any _ _ _ _ _ _ _ (hn.cell (by simp))))
  go_enter Tryz.func56, Tryz.ntmps56
  go_wp2_with (go_at_call 45; refine hq.out.mono ?_; rintro e w' ⟨rfl, hn⟩)
  go_ret
  exact ⟨rfl, ((New.refl _).alloc _).trans hn⟩

set_option maxRecDepth 20000 in
set_option maxHeartbeats 2000000 in
theorem right_any (v : Value) (g : Gram) (w : World) (h : GramAt w v g) (hm : Sm g) :
    Calls Tryz.prog 49 #[v] w fun e w' => e = .returned (.bool true) ∧ New w w' := by
  obtain ⟨a, cap, rfl⟩ := h.slice
  have hpos := hm.pos
  have hlen := hm.len
  go_enter Tryz.func49, Tryz.ntmps49
  go_wp2
  go_loopw [17] (fun i wr => ∃ k : Nat, k ≤ g.length ∧ i = .int .i64 k ∧ New w wr) (fun i _ => g.length - (intOf i).toNat)
  case atStart => exact ⟨0, Nat.zero_le _, rfl, New.refl _⟩
  case round =>
    obtain ⟨k, hk, rfl, hb⟩ := hrel
    by_cases hlt : k < g.length
    · obtain ⟨wo, rfl⟩ : ∃ wo : World, wo = wr := ⟨_, rfl⟩
      obtain ⟨b', o', a', cap', e', h1, h2, h3⟩ := h.elem hlt
      cases e'
      have c1 := hb.cell h1
      have c2 := hb.cell h2
      have hmem := List.getElem_mem hlt
      have hW : New wo (wo.alloc (.cells #[sv g[k].1, .slice a' g[k].2.length cap'] 67)) := (New.refl _).alloc _
      have hq := Lib.hid (isSymbol_ok g[k].1 (wo.alloc (.cells #[sv g[k].1, .slice a' g[k].2.length cap'] 67)) (hm.head _ hmem).1)
      have hbl := hm.body _ hmem
      have hb1 := hb.trans hW
      clear h h1 h2 hb
      go_wp2_with (first | (go_at_call 95; refine hq.out.mono ?_; rintro e w' ⟨rfl, rfl⟩))
      clear hq c1 c2
      go_loopw [34] (fun i wr => ∃ m : Nat, m ≤ g[k].2.length ∧ i = .int .i64 m ∧ New w wr) (fun i _ => g[k].2.length - (intOf i).toNat)
      case atStart => exact ⟨0, Nat.zero_le _, rfl, hb1⟩
      case round =>
        obtain ⟨m, hmm, rfl, hn⟩ := hrel
        by_cases hml : m < g[k].2.length
        · obtain ⟨b2, o2, rfl, h5⟩ := h3.elem hml
          have c3 := hn.cell h5
          have hq := Lib.hid (isSymbol_ok g[k].2[m] wr (hm.sym _ hmem _ (List.getElem_mem hml)))
          clear h5
          go_wp2_with (first | (go_at_call 95; refine hq.out.mono ?_; rintro e w' ⟨rfl, rfl⟩))
          go_roundw
          case rel => exact ⟨m + 1, by omega, by go_num, hn⟩
          case measure => simp [intOf]; omega
        · go_wp2
          go_roundw
          case rel => exact ⟨k + 1, by omega, by go_num, hn⟩
          case measure => simp [intOf]; omega
    · go_wp2
      go_ret
      exact ⟨rfl, hb⟩
end Go.Proofs.YtdejcdmgcckmoaaGreatDoor

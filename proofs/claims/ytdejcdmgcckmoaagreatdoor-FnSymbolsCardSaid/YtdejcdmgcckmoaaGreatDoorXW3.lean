/- A part of the proofs about gocc: W3. -/
import Derived.Test.YtdejcdmgcckmoaaGreatDoorXW1
namespace Go.Proofs.YtdejcdmgcckmoaaGreatDoor
open Go.RowKit Lr

theorem StrsAt.elem {w : World} {a : Option Addr} {n cap : Nat} {l : List Str} (h : StrsAt w (.slice a n cap) l) {k : Nat} (hk : k < l.length) :
    ∃ b o, a = some ⟨b, o, none⟩ ∧ w.cell? ⟨b, o + k, none⟩ = some (sv l[k]) := by
  obtain ⟨a1, cap1, e, _, hc⟩ := h
  cases e
  obtain ⟨b, o, rfl, hcc⟩ := hc (by omega)
  have h1 := hcc k hk
  have eg : l.getD k [] = l[k] := by simp [List.getD, hk]
  simp only [eg] at h1
  exact ⟨b, o, rfl, h1⟩
theorem StrsAt.slice {w : World} {v : Value} {l : List Str} (h : StrsAt w v l) : ∃ a cap, v = .slice a l.length cap := by
  obtain ⟨a, cap, rfl, _, _⟩ := h
  exact ⟨a, cap, rfl⟩

set_option maxHeartbeats 400000 in
theorem Index_str (v : Value) (l : List Str) (s : Str) (w : World) (h : StrsAt w v l) (hl : l.length ≤ 9223372036854775807) :
    Calls Tryz.prog 55 #[v, sv s] w fun e w' => e = .returned (.int .i64 (idxOf s l 0)) ∧ w = w' := by
  obtain ⟨a, cap, rfl, _, hc⟩ := h
  go_enter Tryz.func55, Tryz.ntmps55
  go_wp2
  go_loop [5, 8, 10, 11, 12, 13, 14, 15, 16, 18] (fun _ i _ _ _ _ _ _ _ _ => ∃ k : Nat, k ≤ l.length ∧ i = .int .i64 k ∧ Hid (idxOf s l 0 = idxOf s (l.drop k) k)) (fun _ i _ _ _ _ _ _ _ _ => l.length - (intOf i).toNat)
  case atStart => exact ⟨0, Nat.zero_le _, rfl, rfl⟩
  case round =>
    obtain ⟨k, hk, rfl, hd⟩ := hrel
    by_cases hlt : k < l.length
    · have hs := Lib.hid (@idxOf_drop s l k hlt)
      obtain ⟨b, o, rfl, hcc⟩ := hc (by omega)
      have c0 := hcc k hlt
      clear hc hcc
      go_wp2
      · go_ret
        have ht : (s == l[k]) = true := by assumption
        exact ⟨ret_int (by rw [hd.out, hs.out, if_pos ht]), rfl⟩
      · go_round
        case rel =>
          have ht : (s == l[k]) = false := by assumption
          exact ⟨k + 1, by omega, by go_num, by rw [hd.out, hs.out, ht]; rfl⟩
        case measure => simp [intOf]; omega
    · have hs := Lib.hid (@idxOf_end s l k hlt)
      go_wp2
      go_ret
      exact ⟨ret_int (by rw [hd.out, hs.out]), rfl⟩

set_option maxHeartbeats 400000 in
theorem Contains_str (v : Value) (l : List Str) (s : Str) (w : World) (h : StrsAt w v l) (hl : l.length ≤ 9223372036854775807) :
    Calls Tryz.prog 15 #[v, sv s] w fun e w' => e = .returned (.bool (has l s)) ∧ w = w' := by
  go_enter Tryz.func15, Tryz.ntmps15
  go_wp2_with (go_at_call 55; refine (Index_str v l s _ h hl).mono ?_; rintro e w' ⟨rfl, rfl⟩)
  go_ret
  exact ⟨ret_bool idxOf_ge, rfl⟩
theorem New.drewN {w w' : World} (h : New w w') (n : Nat) : New w (w'.drewN n) := ⟨h.os, h.tape, h.output, h.size, h.block⟩

theorem eq_take {l m : List Str} {k : Nat} (h : k < l.length) (h' : k < m.length) (h1 : l.take k = m.take k) (h2 : l[k] = m[k]) : l.take (k + 1) = m.take (k + 1) := by
  rw [List.take_succ_eq_append_getElem h, List.take_succ_eq_append_getElem h', h1, h2]

set_option maxRecDepth 20000 in
set_option maxHeartbeats 1000000 in
theorem Equal_str (v v' : Value) (l m : List Str) (w : World) (h : StrsAt w v l) (h' : StrsAt w v' m) (hl : l.length ≤ 100000000000) (hm : m.length ≤ 100000000000) :
    Calls Tryz.prog 20 #[v, v'] w fun e w' => e = .returned (.bool (l == m)) ∧ New w w' := by
  obtain ⟨a, cap, rfl⟩ := h.slice
  obtain ⟨a', cap', rfl⟩ := h'.slice
  by_cases hne : l.length = m.length
  · have h0 : ((l.length : Int) != (m.length : Int)) = false := by simp [hne]
    have Hne := Lib.hid hne
    have hle1 : l.length ≤ m.length := by omega
    have hle2 : m.length ≤ l.length := by omega
    clear hne
    go_enter Tryz.func20, Tryz.ntmps20
    go_wp2
    go_loopw [13] (fun i wr => ∃ k : Nat, k ≤ l.length ∧ i = .int .i64 k ∧ Hid (l.take k = m.take k) ∧ New w wr) (fun i _ => l.length - (intOf i).toNat)
    case atStart => exact ⟨0, Nat.zero_le _, rfl, rfl, New.refl _⟩
    case round =>
      obtain ⟨k, hk, rfl, hd, hn⟩ := hrel
      by_cases hlt : k < l.length
      · have hlt' : k < m.length := by omega
        obtain ⟨b, o, rfl, h1⟩ := h.elem hlt
        obtain ⟨b', o', rfl, h1'⟩ := h'.elem hlt'
        have c1 := hn.cell h1
        have c1' := hn.cell h1'
        clear h h' h1 h1'
        go_wp2
        go_quiet (fail)
        go_wp2
        · have ht : (!l[k] == m[k]) = true := by assumption
          go_ret
          refine ⟨ret_bool ?_, hn.drewN _⟩
          symm; rw [beq_eq_false_iff_ne]; intro e; subst e; simp at ht
        · have ht : (!l[k] == m[k]) = false := by assumption
          go_roundw
          case rel => exact ⟨k + 1, by omega, by go_num, eq_take hlt hlt' hd.out (by simpa using ht), hn.drewN _⟩
          case measure => simp [intOf]; omega
      · have hz : l.length ≤ k := by omega
        rw [List.take_of_length_le hz, List.take_of_length_le (by omega)] at hd
        go_wp2
        go_ret
        exact ⟨ret_bool (by rw [hd.out]; simp), hn⟩
  · have h0 : ((l.length : Int) != (m.length : Int)) = true := by simp; omega
    go_enter Tryz.func20, Tryz.ntmps20
    go_wp2
    go_ret
    exact ⟨ret_bool (by symm; rw [beq_eq_false_iff_ne]; intro e; rw [e] at hne; exact hne rfl), New.refl _⟩


/-- The call returns a bool; old memory stays. -/
def SomeB (w : World) (e : Ending) (w' : World) : Prop := ∃ b, e = .returned (.bool b) ∧ New w w'

/-! the laws' sizes -/
set_option maxRecDepth 20000 in
set_option maxHeartbeats 400000 in
theorem zzFits3_any (v : Value) (l : List Str) (w : World) (h : StrsAt w v l) (hl : l.length ≤ 9223372036854775807) :
    Calls Tryz.prog 25 #[v] w (SomeB w) := by
  obtain ⟨a, cap, rfl⟩ := h.slice
  go_enter Tryz.func25, Tryz.ntmps25
  go_wp2
  · go_ret
    exact ⟨_, rfl, New.refl _⟩
  · go_loop [10] (fun i => ∃ k : Nat, k ≤ l.length ∧ i = .int .i64 k) (fun i => l.length - (intOf i).toNat)
    case atStart => exact ⟨0, Nat.zero_le _, rfl⟩
    case round =>
      obtain ⟨k, hk, rfl⟩ := hrel
      by_cases hlt : k < l.length
      · obtain ⟨b, o, rfl, c1⟩ := h.elem hlt
        clear h
        go_wp2
        · go_ret
          exact ⟨_, rfl, New.refl _⟩
        · go_round
          case rel => exact ⟨k + 1, by omega, by go_num⟩
          case measure => simp [intOf]; omega
      · go_wp2
        go_ret
        exact ⟨_, rfl, New.refl _⟩
end Go.Proofs.YtdejcdmgcckmoaaGreatDoor

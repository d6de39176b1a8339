/- A part of the proofs about gocc: W1. -/
import Derived.Test.YtdejcdmgcckmoaaGreatDoorProg
import Derived.Test.YtdejcdmgcckmoaaGreatDoorXK2
namespace Go.Proofs.YtdejcdmgcckmoaaGreatDoor
open Go.RowKit Lr

theorem great_cons (c : UInt8) (s : Str) : greatB (c :: s) = (decide (65 ≤ c.toNat) && decide (c.toNat ≤ 90)) := rfl

set_option maxHeartbeats 400000 in
theorem great_any (s : Str) (w : World) (h : 0 < s.length) :
    Calls Tryz.prog 43 #[sv s] w fun e w' => e = .returned (.bool (greatB s)) ∧ w = w' := by
  cases s with
  | nil => simp at h
  | cons c s =>
    go_enter Tryz.func43, Tryz.ntmps43
    go_wp2
    · have ht : (65 : Int) ≤ (({ data := (c :: s).toArray } : ByteArray)[0]'h).toNat := by assumption
      go_ret
      refine ⟨ret_bool ?_, rfl⟩
      have e : (({ data := (c :: s).toArray } : ByteArray)[0]'h) = c := rfl
      rw [e] at ht
      simp only [e]
      rw [great_cons, decide_eq_true (show 65 ≤ c.toNat by omega), Bool.true_and]
      exact decide_eq_decide.2 (by omega)
    · have ht : ((({ data := (c :: s).toArray } : ByteArray)[0]'h).toNat : Int) < 65 := by assumption
      go_ret
      refine ⟨ret_bool ?_, rfl⟩
      have e : (({ data := (c :: s).toArray } : ByteArray)[0]'h) = c := rfl
      rw [e] at ht
      rw [great_cons, decide_eq_false (by omega), Bool.false_and]

theorem letter_yes {c : UInt8} (h : (97 ≤ (c.toNat : Int) ∧ (c.toNat : Int) ≤ 122) ∨ (65 ≤ (c.toNat : Int) ∧ (c.toNat : Int) ≤ 90)) : letterB c = true := by
  unfold letterB; simp; omega
theorem letter_no {c : UInt8} (h : ¬ ((97 ≤ (c.toNat : Int) ∧ (c.toNat : Int) ≤ 122) ∨ (65 ≤ (c.toNat : Int) ∧ (c.toNat : Int) ≤ 90))) : letterB c = false := by
  unfold letterB; simp; omega
theorem letter_take {s : Str} {k : Nat} (h : k < s.length) (h1 : (s.take k).all letterB = true) (h2 : letterB s[k] = true) : (s.take (k + 1)).all letterB = true := by
  rw [List.take_succ_eq_append_getElem h, List.all_append, h1]; simp [h2]
theorem symbolOk_no {s : Str} {k : Nat} (h : k < s.length) (h2 : letterB s[k] = false) : symbolOkB s = false := by
  have : s.all letterB = false := by
    rw [List.all_eq_false]
    exact ⟨s[k], List.getElem_mem h, by simp [h2]⟩
  simp [symbolOkB, this]

theorem sv_get (s : Str) (i : Nat) (h : i < ({ data := s.toArray } : ByteArray).size) : (({ data := s.toArray } : ByteArray)[i]'h) = s[i]'h := rfl

set_option maxRecDepth 20000 in
set_option maxHeartbeats 1000000 in
theorem symbolOk_any (s : Str) (w : World) (h : s.length ≤ 9223372036854775807) :
    Calls Tryz.prog 42 #[sv s] w fun e w' => e = .returned (.bool (symbolOkB s)) ∧ w = w' := by
  go_enter Tryz.func42, Tryz.ntmps42
  go_wp2
  go_loop [3] (fun i => ∃ k : Nat, k ≤ s.length ∧ i = .int .i64 k ∧ Hid ((s.take k).all letterB = true)) (fun i => s.length - (intOf i).toNat)
  case atStart => exact ⟨0, Nat.zero_le _, rfl, rfl⟩
  case round =>
    obtain ⟨k, hk, rfl, hd⟩ := hrel
    by_cases hlt : k < s.length
    · have hsz : k < ({ data := s.toArray } : ByteArray).size := hlt
      have hs := sv_get s k hsz
      go_wp2
      all_goals (try simp only [sv_get] at *)
      all_goals first
        | (go_round
           case rel => exact ⟨k + 1, by omega, by go_num, letter_take hlt hd.out (letter_yes (by omega))⟩
           case measure => simp [intOf]; omega)
        | (go_ret; exact ⟨ret_bool (symbolOk_no hlt (letter_no (by omega))).symm, rfl⟩)
    · have hsz : ¬ k < ({ data := s.toArray } : ByteArray).size := hlt
      rw [List.take_of_length_le (by omega)] at hd
      go_wp2
      · go_ret
        have hp : 0 < s.length := by assumption
        exact ⟨ret_bool (by rw [symbolOkB, hd.out, decide_eq_true hp]; simp only [Bool.true_and]; exact decide_eq_decide.2 (by omega)), rfl⟩
      · go_ret
        have hp : ¬ 0 < s.length := by assumption
        exact ⟨ret_bool (by rw [symbolOkB, decide_eq_false hp]; simp), rfl⟩
end Go.Proofs.YtdejcdmgcckmoaaGreatDoor

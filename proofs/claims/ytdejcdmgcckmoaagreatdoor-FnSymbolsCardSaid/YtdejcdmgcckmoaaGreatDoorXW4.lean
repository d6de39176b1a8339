/- A part of the proofs about gocc: W4. -/
import Derived.Test.YtdejcdmgcckmoaaGreatDoorXW2
import Derived.Test.YtdejcdmgcckmoaaGreatDoorXW3
namespace Go.Proofs.YtdejcdmgcckmoaaGreatDoor
open Go.RowKit Lr

/-- What every reading of a grammar gives on sizes. -/
structure Fits (g : Gram) : Prop where
  len : g.length ≤ 9223372036854775807
  head : ∀ p ∈ g, p.1.length ≤ 9223372036854775807
  body : ∀ p ∈ g, p.2.length ≤ 9223372036854775807
  syms : ∀ p ∈ g, ∀ s ∈ p.2, s.length ≤ 9223372036854775807

set_option maxRecDepth 20000 in
set_option maxHeartbeats 400000 in
theorem zzFits2_any (s : Str) (l : List Str) (a : Option Addr) (cap : Nat) (w : World) (h : StrsAt w (.slice a l.length cap) l) (hl : l.length ≤ 9223372036854775807) :
    Calls Tryz.prog 41 #[.agg #[sv s, .slice a l.length cap]] w (SomeB w) := by
  have hq := Lib.hid (zzFits3_any _ _ (w.alloc (.cells #[sv s, .slice a l.length cap] 67)) (h.new ((New.refl _).alloc _)) hl)
  go_enter Tryz.func41, Tryz.ntmps41
  go_wp2_with (go_at_call 25; refine hq.out.mono ?_; rintro e w' ⟨b, rfl, hn⟩; have hn2 := ((New.refl w).alloc _).trans hn; clear hn)
  all_goals (go_ret; exact ⟨_, rfl, by first | assumption | exact (New.refl w).alloc _⟩)

set_option maxRecDepth 20000 in
set_option maxHeartbeats 400000 in
theorem zzFits1_any (v : Value) (g : Gram) (w : World) (h : GramAt w v g) (hf : Fits g) :
    Calls Tryz.prog 11 #[v] w (SomeB w) := by
  obtain ⟨a, cap, rfl⟩ := h.slice
  have hlen := hf.len
  go_enter Tryz.func11, Tryz.ntmps11
  go_wp2
  · go_ret
    exact ⟨_, rfl, New.refl _⟩
  · go_loopw [10] (fun i wr => ∃ k : Nat, k ≤ g.length ∧ i = .int .i64 k ∧ New w wr) (fun i _ => g.length - (intOf i).toNat)
    case atStart => exact ⟨0, Nat.zero_le _, rfl, New.refl _⟩
    case round =>
      obtain ⟨k, hk, rfl, hn⟩ := hrel
      by_cases hlt : k < g.length
      · obtain ⟨b, o, a', cap', rfl, h1, h2, h3⟩ := h.elem hlt
        have c1 := hn.cell h1
        have c2 := hn.cell h2
        have hq := Lib.hid (zzFits2_any g[k].1 g[k].2 a' cap' (wr.alloc (.cells #[sv g[k].1, .slice a' g[k].2.length cap'] 67)) (h3.new (hn.alloc _)) (hf.body _ (List.getElem_mem hlt)))
        have hn' := hn.alloc (.cells #[sv g[k].1, .slice a' g[k].2.length cap'] 67)
        clear h h1 h2 h3 hn
        go_wp2_with (go_at_call 41; refine hq.out.mono ?_; rintro e w1 ⟨bb, rfl, hn1⟩; have hn2 := hn'.trans hn1; clear hn1 hn')
        · go_ret
          exact ⟨_, rfl, hn2⟩
        · go_roundw
          case rel => exact ⟨k + 1, by omega, by go_num, hn2⟩
          case measure => simp [intOf]; omega
      · go_wp2
        go_ret
        exact ⟨_, rfl, hn⟩
end Go.Proofs.YtdejcdmgcckmoaaGreatDoor

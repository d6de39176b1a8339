/- A part of the proofs about gocc: S6. -/
import Derived.Test.YtdejcdmgcckmoaaGreatDoorXS5
namespace Go.Proofs.YtdejcdmgcckmoaaGreatDoor
open Go.RowKit Lr

set_option maxRecDepth 20000 in
set_option maxHeartbeats 1000000 in
theorem ZZGrammar_any (v : Value) (L : List AP) (w : World) (hP : ProdsAt w v L) (hL : 0 < L.length) (hL2 : L.length ≤ 1000) :
    Calls Tryz.prog 97 #[v] w fun e w' => ∃ v', e = .returned v' ∧ GrmAt w' v' ((startS, [.nt L[0].1]) :: L) ∧ New w w' := by
  obtain ⟨a, cap, rfl⟩ := hP.slice
  have HP := Lib.hid hP
  clear hP
  go_enter Tryz.func97, Tryz.ntmps97
  go_wp2_with fail
  refine (NewSyntaxPart_any a L.length cap w).mono ?_
  rintro e w1 ⟨y, rfl, h1, ⟨k, h0⟩, hn1⟩
  go_wp2_with fail
  refine (augment_any y k _ L w1 h0 h1 (HP.out.new hn1) hL hL2).mono ?_
  rintro e w2 ⟨q, z, rfl, h2, hz, hn2⟩
  go_wp2_with fail
  go_ret
  refine ⟨_, rfl, ⟨w2.heap.size, q, z, rfl, by simp, ((New.refl w2).alloc _).cell h2, hz.new ((New.refl w2).alloc _)⟩, (New.trans hn1 hn2).alloc _⟩
end Go.Proofs.YtdejcdmgcckmoaaGreatDoor

/- A part of the proofs about gocc: F1. -/
import Derived.Test.YtdejcdmgcckmoaaGreatDoorXK3
import Derived.Test.YtdejcdmgcckmoaaGreatDoorXS5
import Derived.Deep.LoopGhost
namespace Go.Proofs.YtdejcdmgcckmoaaGreatDoor
open Go.RowKit Lr

/-- A set of strings, as a map to true. -/
def bitF (S : Str → Bool) : Str → Option Value := fun s => if S s then some (.bool true) else none
abbrev SetF (w : World) (b n : Nat) (S : Str → Bool) : Prop := MapF Tryz.prog 9 w b n (bitF S)
abbrev SetV (w : World) (v : Value) (n : Nat) (S : Str → Bool) : Prop := MapV Tryz.prog 9 w v n (bitF S)
theorem bitF_put (S : Str → Bool) (s : Str) : putF (bitF S) s (.bool true) = bitF fun t => decide (t = s) || S t := by
  funext t
  unfold putF bitF
  by_cases h : t = s <;> simp [h]
theorem bitF_some (S : Str → Bool) (s : Str) : (bitF S s).isSome = S s := by unfold bitF; cases S s <;> rfl
theorem bitF_empty : (fun _ => none) = bitF fun _ => false := by funext t; rfl
theorem z4 (w : World) : (zeroValue 4).run Tryz.prog w = .ok (.bool false) w := by kernel_rfl

set_option maxRecDepth 20000 in
set_option maxHeartbeats 1000000 in
theorem SAddSet_any {w : World} {m1 n1 n2 : Nat} {S1 S2 : Str → Bool} {v2 : Value} (h1 : SetF w m1 n1 S1) (h2 : SetV w v2 n2 S2) (hne : ∀ b, v2 = .map (some b) → b ≠ m1) (hn : n1 + n2 ≤ 1000000000000000) :
    Calls Tryz.prog 172 #[.map (some m1), v2] w fun e w' => e = .returned (.tuple #[]) ∧ SetF w' m1 (n1 + n2) (fun t => S1 t || S2 t) ∧ w.grownBy w' (some m1) := by
  have hm1 := h1.lt
  have HNE := Lib.hid hne
  clear hne
  go_enter Tryz.func172, Tryz.ntmps172
  go_wp2_with (first | (at_range; refine wpList_vrange _ rfl _ 82 4 rfl Tryz.underlying9 Tryz.underlying82 v2 n2 (bitF S2) rfl h2 ?_; intro w0 cnt0 hrg0 hg0))
  go_frame
  go_loopg [4] n2 (fun gk u4 wr => ∃ (cnt n : Nat) (L S : Str → Bool), RangeV Tryz.prog 9 wr v2 w.heap.size n2 (bitF S2) L cnt ∧ SetF wr m1 n S ∧ cnt ≤ gk ∧ n + cnt ≤ n1 + n2 ∧ (∀ t, S t = (S1 t || (S2 t && !L t))) ∧ w.grownBy wr (some m1))
  case atStart =>
    refine ⟨cnt0, n1, _, S1, hrg0, h1.kept hg0 (by simp), hrg0.cnt_le, by have := hrg0.cnt_le; omega, fun t => ?_, hg0.but _⟩
    rw [bitF_some]
    cases S1 t <;> cases S2 t <;> rfl
  case round =>
    clear hrg0 hg0 h1 h2
    obtain ⟨cnt, n, L, S, hrg, hS, hc, hnc, hL, hg⟩ := hrel
    have HL := Lib.hid hL
    clear hL
    go_wp2_with (first | (at_next; refine wpList_vnext _ rfl _ rfl Tryz.underlying9 v2 w.heap.size n2 (bitF S2) L cnt rfl hrg ?_ ?_))
    · intro hl
      have HL2 := Lib.hid hl
      clear hl
      go_wp2
      go_end0
      refine ⟨rfl, ?_, hg⟩
      have e : S = fun t => S1 t || S2 t := by
        funext t
        rw [HL.out, HL2.out]
        simp
      rw [← e]
      exact hS.mono (by omega)
    · intro s u w1 cnt1 hsl hLs hfs hrg1 hlt hg1 hsz1 hent
      have hS1 := hS.kept hg1 (by intro e; injection e with e; omega)
      have HS := Lib.hid (And.intro hLs hfs)
      clear hS hrg hLs hfs hsz1
      go_wp2_with (first | (at_mapUpdate; go_must (refine wpList_mstore _ rfl _ _ _ _ _ rfl Tryz.underlying9 Tryz.underlying82 m1 n (bitF S) rfl hS1 (by omega) s rfl (by omega) (.bool true) rfl ?_)))
      intro w2 hS2 hg2
      rw [bitF_put] at hS2
      have hrg2 : RangeV Tryz.prog 9 w2 v2 w.heap.size n2 (bitF S2) (fun t => L t && !decide (t = s)) cnt1 := by
        rcases hrg1 with ⟨e1, e2, e3⟩ | ⟨b, e1, e2⟩
        · exact .inl ⟨e1, (hg2.block _ (lt_of_block e2) (by intro e; injection e with e; omega)).trans e2, e3⟩
        · exact .inr ⟨b, e1, e2.kept hg2 (by intro e; injection e with e; exact HNE.out b e1 e) (by intro e; injection e with e; omega)⟩
      clear hent
      go_wp2
      go_roundg cnt1
      case measure => omega
      case rel =>
        refine ⟨cnt1, n + 1, _, _, hrg2, hS2, Nat.le_refl _, by omega, fun t => ?_, (hg.andThen hg1 (by intro j e; injection e with e; left; omega)).andThen hg2 (by intro j e; right; exact e)⟩
        obtain ⟨hLs, hfs⟩ := HS.out
        have hs2 : S2 s = true := by
          have := bitF_some S2 s
          rw [hfs] at this
          exact this.symm
        rw [HL.out]
        by_cases e : t = s
        · subst e
          simp [hs2]
        · simp [e]
end Go.Proofs.YtdejcdmgcckmoaaGreatDoor

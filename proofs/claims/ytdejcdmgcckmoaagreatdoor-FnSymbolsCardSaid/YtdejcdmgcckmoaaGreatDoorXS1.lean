/- A part of the proofs about gocc: S1. -/
import Derived.Test.YtdejcdmgcckmoaaGreatDoorProg
import Derived.Test.YtdejcdmgcckmoaaGreatDoorXW6
namespace Go.Proofs.YtdejcdmgcckmoaaGreatDoor
open Go.RowKit Lr

/-- The package's symbols while they are made. -/
structure SymSt (w : World) (B p m1 m2 m3 : Nat) (r2 r4 r5 : Value) (tm nt nk : List Str) (n : Nat) : Prop where
  blk : w.heap[p]? = some (.cells #[.map (some m1), .map (some m2), r2, .map (some m3), r4, r5] 153 (0, 0))
  id : ∃ f, MapF Tryz.prog 9 w m1 n f ∧ ∀ s, (f s).isSome = has tm s
  ntm : ∃ f, MapF Tryz.prog 9 w m2 n f ∧ ∀ s, (f s).isSome = has nk s
  tmr : Strs w B r5 tm
  ntr : Strs w B r2 nt
  dis : r2.ownBlock = none ∨ r2.ownBlock ≠ r5.ownBlock
  mne : m1 ≠ m2
  pB : B ≤ p
  m1B : B ≤ m1
  m2B : B ≤ m2

theorem SymSt.new {w w' : World} {B p m1 m2 m3 : Nat} {r2 r4 r5 : Value} {tm nt nk : List Str} {n : Nat} (h : SymSt w B p m1 m2 m3 r2 r4 r5 tm nt nk n) (hn : New w w') : SymSt w' B p m1 m2 m3 r2 r4 r5 tm nt nk n :=
  ⟨hn.heap h.blk, h.id.imp fun _ q => ⟨q.1.new hn, q.2⟩, h.ntm.imp fun _ q => ⟨q.1.new hn, q.2⟩, h.tmr.new hn, h.ntr.new hn, h.dis, h.mne, h.pB, h.m1B, h.m2B⟩

theorem z3 (w : World) : (zeroValue 3).run Tryz.prog w = .ok (.int .i64 0) w := by kernel_rfl

set_option maxRecDepth 20000 in
set_option maxHeartbeats 1000000 in
theorem Add_one {w : World} {B p m1 m2 m3 : Nat} {r2 r4 r5 : Value} {tm nt nk : List Str} {n : Nat} (st : SymSt w B p m1 m2 m3 r2 r4 r5 tm nt nk n) (s : Str) (hs : s.length ≤ 1000) (q c : Nat) (hq : w.cell? ⟨q, 0, none⟩ = some (sv s))
    (htm : tm.length ≤ 1000) (hn : n ≤ 1000000) (hB : B ≤ w.heap.size) :
    Calls Tryz.prog 129 #[.pointer (some ⟨p, 0, none⟩), .slice (some ⟨q, 0, none⟩) 1 c] w fun e w' => e = .returned (.tuple #[]) ∧ ∃ r5', SymSt w' B p m1 m2 m3 r2 r4 r5' (addTo tm s) nt nk (n + 1) ∧ Below B w w' := by
  have c0 := cell_of_blk st.blk 0
  have c5 := cell_of_blk st.blk 5
  simp only [List.getElem?_toArray, List.getElem?_cons_zero, List.getElem?_cons_succ] at c0 c5
  obtain ⟨f, hf, hfk⟩ := st.id
  obtain ⟨a5, k5, rfl⟩ := owns_slice st.tmr
  have hf0 := hf
  go_enter Tryz.func129, Tryz.ntmps129
  go_wp2
  refine wp_loop_rounds 2 ?_
  rw [rounds_succ]
  cases hh : has tm s with
  | true =>
    have h1 : (f s).isSome = true := by rw [hfk, hh]
    have h0 : f s = none → False := by intro e; rw [e] at h1; cases h1
    go_wp2_with (at_lookup; refine wpList_look_ok _ rfl _ _ _ _ rfl Tryz.underlying9 Tryz.underlying91 (z3 _) m1 n f rfl hf s rfl (by omega) ?_; rw [h1])
    rw [rounds_succ]
    clear hf
    go_wp2
    go_end0
    exact ⟨rfl, _, ⟨st.blk, ⟨f, hf0.mono (by omega), fun t => by rw [hfk, addTo_yes hh]⟩, st.ntm.imp fun _ h => ⟨h.1.mono (by omega), h.2⟩, by rw [addTo_yes hh]; exact st.tmr, st.ntr, st.dis, st.mne, st.pB, st.m1B, st.m2B⟩, Below.refl _ _⟩
  | false =>
    have h1 : (f s).isSome = false := by rw [hfk, hh]
    have hown := st.tmr
    go_wp2_with (first | (at_lookup; refine wpList_look_ok _ rfl _ _ _ _ rfl Tryz.underlying9 Tryz.underlying91 (z3 _) m1 n f rfl hf s rfl (by omega) ?_; rw [h1]) | (at_builtin; go_must (refine wpList_push _ rfl _ _ _ _ rfl T24 B _ _ _ rfl hown [_] rfl rfl _ _ rfl (by simp) (by omega) (by omega) hB ?_)))
    intro v' w1 hown1 hgrow hne hat
    have b1 := (hgrow.block p (lt_of_block st.blk) (fun e => ownBlock_ne hown st.blk (by decide) e.symm)).trans st.blk
    have hown2 := Strs.push hown1
    obtain ⟨a6, k6, rfl⟩ := owns_slice hown1
    have e1 := cell_of_blk b1 5
    simp only [List.getElem?_toArray, List.getElem?_cons_zero, List.getElem?_cons_succ] at e1
    have e2 := free_of_blk b1 5
    have b2 := set_of_blk b1 5 (.slice a6 (tm.length + 1) k6)
    simp only [List.setIfInBounds_toArray, List.set_cons_succ, List.set_cons_zero] at b2
    have g0 := cell_of_blk b2 0
    have g5 := cell_of_blk b2 5
    simp only [List.getElem?_toArray, List.getElem?_cons_zero, List.getElem?_cons_succ] at g0 g5
    have hf1 := (hf.kept hgrow (fun e => ownBlock_ne_map hown hf e.symm)).setCell (u := .slice a6 (tm.length + 1) k6) e1
    have hB2 := (Below.grown (Below.refl B w) hgrow hB (fun k hk => (hown.lt k hk).1)).setCell (p := ⟨p, 5, none⟩) st.pB (.slice a6 (tm.length + 1) k6)
    have hs2 := ownsRow_setCell_other hown2 (a := ⟨p, 5, none⟩) (ownBlock_ne hown2 b1 (by decide)) (.slice a6 (tm.length + 1) k6)
    have hr2 := ownsRow_setCell_other (st.ntr.kept hgrow st.dis) (a := ⟨p, 5, none⟩) (ownBlock_ne (st.ntr.kept hgrow st.dis) b1 (by decide)) (.slice a6 (tm.length + 1) k6)
    have hm2 : ∃ f, MapF Tryz.prog 9 (w1.setCell ⟨p, 5, none⟩ (.slice a6 (tm.length + 1) k6)) m2 n f ∧ ∀ s, (f s).isSome = has nk s := by
      obtain ⟨f2, hf2, hk2⟩ := st.ntm
      exact ⟨f2, (hf2.kept hgrow (fun e => ownBlock_ne_map hown hf2 e.symm)).setCell e1, hk2⟩
    have hdis : r2.ownBlock = none ∨ r2.ownBlock ≠ (Value.slice a6 (tm.length + 1) k6).ownBlock := by
      rcases st.dis with h | h
      · exact .inl h
      · cases hr : r2.ownBlock with
        | none => exact .inl rfl
        | some k =>
          right
          rcases hat with e | ⟨b, e, hb⟩
          · rw [e, ← hr]; exact h
          · rw [e]
            intro e3
            have := (st.ntr.lt k hr).2
            injection e3 with e3
            omega
    go_wp2_with fail
    clear hgrow hne hat e1 e2 b1 hf c0 c5 hown hown1 hown2
    generalize w1.setCell ⟨p, 5, none⟩ (.slice a6 (tm.length + 1) k6) = w2 at *
    go_still_tail 11, (by kernel_rfl)
    change wpList _ _ _ _ _ (World.drew _)
    go_wp2_with (at_mapUpdate; go_must (refine wpList_mstore _ rfl _ _ _ _ _ rfl Tryz.underlying9 Tryz.underlying91 m1 n f rfl hf1 (by omega) s rfl (by omega) _ rfl ?_))
    intro w3 hf3 hg3
    have hg4 : w2.grownBy w3 (some m1) := ⟨hg3.os, hg3.tape, hg3.output, hg3.size, hg3.block⟩
    have hpm : some p ≠ some m1 := by
      intro e
      obtain ⟨es, cl, hm⟩ := hf1.block
      injection e with e
      rw [← e, b2] at hm
      cases hm
    have b3 := (hg4.block p (lt_of_block b2) hpm).trans b2
    have hs3 := hs2.kept hg4 (.inr (ownBlock_ne_map hs2 hf1))
    have hr3 := hr2.kept hg4 (.inr (ownBlock_ne_map hr2 hf1))
    have hm3 : ∃ f, MapF Tryz.prog 9 w3 m2 (n + 1) f ∧ ∀ s, (f s).isSome = has nk s := by
      obtain ⟨f2, hf2, hk2⟩ := hm2
      exact ⟨f2, (hf2.kept hg4 (fun e => st.mne (by injection e with e; exact e.symm))).mono (by omega), hk2⟩
    have hB3 : Below B w w3 := hB2.grown hg4 (Nat.le_trans hB hB2.size) (fun k hk => by injection hk with hk; rw [← hk]; exact st.m1B)
    clear hg3 hg4 hf1 hs2 hr2 hm2 hB2 b2 g0 g5 hpm
    go_wp2
    rw [rounds_succ]
    go_wp2
    go_end0
    refine ⟨rfl, _, ⟨b3, ⟨_, hf3, fun t => ?_⟩, hm3, ?_, hr3, hdis, st.mne, st.pB, st.m1B, st.m2B⟩, hB3⟩
    · rw [addTo_no hh]
      unfold putF
      by_cases e : t = s
      · subst e; simp [has]
      · simp only [e, if_false, hfk]
        simp [has, e]
    · rw [addTo_no hh]; exact hs3
end Go.Proofs.YtdejcdmgcckmoaaGreatDoor

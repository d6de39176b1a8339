/- The parser's rows and steps. -/
import Derived.Test.YtdejcdmgcckmoaaGreatDoorYUC
import Derived.Test.YtdejcdmgcckmoaaGreatDoorYUB
import Derived.Test.YtdejcdmgcckmoaaGreatDoorYKK
namespace Go.Proofs.YtdejcdmgcckmoaaGreatDoor
open Go.RowKit Go.Sort Lr

set_option maxRecDepth 20000 in
set_option maxHeartbeats 1000000 in
theorem noStops1 {g : Gram} (hm : Sm g) (hN : NoStop g) {w0 w W : World} {e1 e2 e3 vS : Value} {q : Nat} {R : List Rec} {Γ : List (List Str)} {D : Nat → List Str} (hG : GSt g w0 w W e1 e2 e3 q vS R Γ D) (hR : R.length ≤ 1000) :
    Calls Tryz.prog 119 #[vS, .func (.func 78) #[] #[]] W fun e w' => e = .returned (.int .i64 (-1)) ∧ New W w' := by
  have HG := Lib.hid hG
  obtain ⟨aS, cS, rfl⟩ := owns_slice hG.row
  clear hG
  go_enter Tryz.func119, Tryz.ntmps119
  go_wp2
  go_loopg [8] R.length (fun gk u8 wr => ∃ k : Nat, k ≤ R.length ∧ gk = R.length - k ∧ u8 = .int .i64 k ∧ Hid (New W wr))
  case atStart => exact ⟨0, Nat.zero_le _, rfl, rfl, Lib.hid (New.refl W)⟩
  case round =>
    obtain ⟨k, hk, rfl, rfl, hn⟩ := hrel
    by_cases hlt : k < R.length
    · obtain ⟨gb, cb, e, hgb, hgB, hcell⟩ := row_ptr HG.out.row (by omega)
      cases e
      have hrow := hn.out.cell (hcell k (.pointer (some ⟨R[k].p, 0, none⟩)) (by simp [hlt]))
      have hf := rec_f hm hN HG.out (by omega) hlt
      have hst := ((HG.out.recs k hlt).st).new hn.out
      have hstop := stops_any hst (by have := hf.len; omega)
      rw [hf.stop] at hstop
      have hqs := Lib.hid hstop
      have HN := Lib.hid hn.out
      clear hcell hst hstop hf hgb hgB hn
      generalize R[k].p = pk at *
      go_wp2_with (go_at_call 78; refine hqs.out.mono ?_; rintro e w3 ⟨rfl, hn3⟩)
      go_roundg (R.length - (k + 1))
      case measure => omega
      case rel => exact ⟨k + 1, by omega, rfl, by go_num, Lib.hid (HN.out.trans hn3)⟩
    · have HN := Lib.hid hn.out
      clear hn
      go_wp2
      go_ret
      exact ⟨rfl, HN.out⟩
/-- No state stops. -/
theorem noStops_any {g : Gram} (hm : Sm g) (hN : NoStop g) {w0 w W : World} {e1 e2 e3 vS : Value} {q : Nat} {R : List Rec} {Γ : List (List Str)} {D : Nat → List Str} (hG : GSt g w0 w W e1 e2 e3 q vS R Γ D) (hR : R.length ≤ 1000) :
    Calls Tryz.prog 77 #[vS, .func (.func 78) #[] #[]] W fun e w' => e = .returned (.bool false) ∧ New W w' := by
  have hq := Lib.hid (noStops1 hm hN hG hR)
  obtain ⟨aS, cS, rfl⟩ := owns_slice hG.row
  clear hG
  go_enter Tryz.func77, Tryz.ntmps77
  go_wp2_with (go_at_call 119; refine hq.out.mono ?_; rintro e w' ⟨rfl, hn⟩)
  go_ret
  exact ⟨rfl, hn⟩
/-- The first part of a row of the call's own. -/
theorem owns_take {α : Type} {enc : α → List Value} {k : Nat} (hk : ∀ x, (enc x).length = k) {t : TypeId} {w : World} {B : Nat} {a : Option Addr} {n c : Nat} {L : List α} (h : OwnK enc k t w B (.slice a n c) L) {m : Nat} (hm : m ≤ L.length) (h0 : 0 < L.length) : OwnK enc k t w B (.slice a m c) (L.take m) := by
  rcases h.2 with ⟨e, hz⟩ | ⟨g, cap, cur, e, hb, hg, h1, h2, h3, h4⟩
  · omega
  · cases e
    have hl : (L.take m).length = m := by rw [List.length_take]; omega
    unfold OwnK
    rw [hl]
    refine ⟨by rw [flatMap_const hk, hl], .inr ⟨g, c, cur, rfl, hb, hg, by omega, h2, h3, ?_⟩⟩
    have e1 : (L.take m).flatMap enc = (L.flatMap enc).take (m * k) := by
      have e2 : L.flatMap enc = (L.take m).flatMap enc ++ (L.drop m).flatMap enc := by rw [← List.flatMap_append, List.take_append_drop]
      rw [e2, List.take_left' (by rw [flatMap_const hk, hl])]
    rw [e1, ← h4, List.take_take, Nat.min_eq_left (Nat.mul_le_mul_right _ hm)]
/-- A slice of a row of the call's own, up to a place. -/
theorem slice_take (a : Option Addr) (n c : Nat) (m : Int) (hm0 : 0 ≤ m) (hmn : m ≤ n) (hnc : n ≤ c) (W : World) :
    (Instr.slice 44 (.slice a n c) none (some (.int .i64 m)) none).run Tryz.prog W = .ok (.slice a m.toNat c) W := by
  rw [run_slice_h W 44 a n c (by rw [show Tryz.prog.elem 44 = 3 from by kernel_rfl]; exact T44.und) .i64 m hm0 (by omega)]
  have hs : (sizeOf (Tryz.prog.elem 44)).run Tryz.prog W = .ok 1 W := by kernel_rfl
  rw [hs]
  simp [Result.andThen_ok, sliced]
  intro _
  cases a <;> rfl
end Go.Proofs.YtdejcdmgcckmoaaGreatDoor
namespace Go.Proofs.YtdejcdmgcckmoaaGreatDoor
open Go.RowKit Go.Sort Lr

/-! The parser's rows in memory. -/
def RsO (w : World) (v : Value) (l : List Str) : Prop :=
  ∃ (b o c : Nat) (blk : Array Value), v = .slice (some ⟨b, o, none⟩) l.length c ∧ l.length ≤ c ∧ w.heap[b]? = some (.cells blk 9 (0, 0)) ∧ ∀ j, (hj : j < l.length) → blk[o + j]? = some (sv l[j])
section
variable {w w' : World} {v : Value} {l : List Str}
theorem RsO.at (h : RsO w v l) : StrsAt w v l := by
  obtain ⟨b, o, c, blk, rfl, hc, hb, hj⟩ := h
  exact ⟨_, c, rfl, hc, fun _ => ⟨b, o, rfl, fun j hjl => by
    rw [cell_of_blk hb, hj j hjl]
    simp [List.getD_eq_getElem?_getD, List.getElem?_eq_getElem hjl]⟩⟩
theorem RsO.new (h : RsO w v l) (hn : New w w') : RsO w' v l := by
  obtain ⟨b, o, c, blk, e, hc, hb, hj⟩ := h
  exact ⟨b, o, c, blk, e, hc, hn.heap hb, hj⟩
theorem RsO.kept {B n : Nat} {vS : Value} {xs : List Value} (h : RsO w v l) (ho : w.ownsRow B 3 1 vS n xs) (hg : w.grownBy w' vS.ownBlock) : RsO w' v l := by
  obtain ⟨b, o, c, blk, e, hc, hb, hj⟩ := h
  exact ⟨b, o, c, blk, e, hc, (hg.block b (lt_of_block hb) (fun e => ownBlock_ne ho hb (by decide) e.symm)).trans hb, hj⟩
theorem RsO.of_own {B n : Nat} (h : w.ownsRow B 9 1 v n (l.map sv)) (h0 : l ≠ []) : RsO w v l := by
  have hn : l.length = n := by have := h.1; simpa using this
  subst hn
  have h1 : 0 < l.length := List.length_pos_iff.2 h0
  rcases h.2 with ⟨_, hz⟩ | ⟨g, cap, cur, e1, _, hg, h1, h2, h3, h4⟩
  · omega
  · refine ⟨g, 0, cap, cur.toList.toArray, e1, h1, by simpa using hg, fun j hj => ?_⟩
    have : (cur.toList.take (l.length * 1))[j]? = (l.map sv)[j]? := by rw [← h4]
    rw [List.getElem?_take_of_lt (by omega), List.getElem?_map, List.getElem?_eq_getElem hj] at this
    simpa using this
theorem RsO.drop {x : Str} (h : RsO w v (x :: l)) : ∃ (b o c : Nat) (v' : Value), v = .slice (some ⟨b, o, none⟩) (l.length + 1) c ∧ w.cell? ⟨b, o, none⟩ = some (sv x) ∧ (∀ W, (Instr.slice 24 v (some (.int .i64 1)) none none).run Tryz.prog W = .ok v' W) ∧ (∀ W, RsO W v (x :: l) → RsO W v' l) := by
  obtain ⟨b, o, c, blk, e, hc, hb, hj⟩ := h
  simp only [List.length_cons] at e hc
  refine ⟨b, o, c, .slice (some ⟨b, if c = 1 then o else o + 1, none⟩) l.length (c - 1), e, ?_, fun W => ?_, fun W hW => ?_⟩
  · rw [cell_of_blk hb]
    exact hj 0 (by simp)
  · rw [e, run_slice_l W 24 (some ⟨b, o, none⟩) (l.length + 1) c (by rw [show Tryz.prog.elem 24 = 9 from by kernel_rfl]; exact T24.und) .i64 1 (by omega) (by omega)]
    have hs : (sizeOf (Tryz.prog.elem 24)).run Tryz.prog W = .ok 1 W := by kernel_rfl
    rw [hs]
    have e1 : (1 : Int).toNat = 1 := rfl
    simp only [Result.andThen_ok, sliced, e1, Nat.mul_one, Nat.add_sub_cancel]
    by_cases h : c = 1
    · simp [h]
    · simp [h, Addr.add]
  · obtain ⟨b2, o2, c2, blk2, e2, hc2, hb2, hj2⟩ := hW
    rw [e] at e2
    cases e2
    refine ⟨b, _, _, blk2, rfl, by omega, hb2, fun j hjl => ?_⟩
    have h1 : ¬ c = 1 := by omega
    rw [if_neg h1]
    have := hj2 (j + 1) (by simp; omega)
    rw [show o + 1 + j = o + (j + 1) by omega, this]
    simp
end
/-- The parser's rows: its stack, its reductions, the word's rest. -/
structure AccO (W wr : World) (vS vP vR : Value) (st ps : List Nat) (r : List Str) : Prop where
  os : OwnK nat1 1 3 wr W.heap.size vS st
  op : OwnK nat1 1 3 wr W.heap.size vP ps
  dis : ∀ b, vS.ownBlock = some b → vP.ownBlock = some b → False
  rs : RsO wr vR r
  n : New W wr
section
variable {W wr w' : World} {vS vP vR : Value} {st ps : List Nat} {r : List Str}
theorem AccO.mono (h : AccO W wr vS vP vR st ps r) (hn : New wr w') : AccO W w' vS vP vR st ps r := ⟨ownsRow_new h.os hn, ownsRow_new h.op hn, h.dis, h.rs.new hn, h.n.trans hn⟩
theorem AccO.pushS (h : AccO W wr vS vP vR st ps r) {x : Nat} {v' : Value} (hown : w'.ownsRow W.heap.size 3 1 v' (st.length + 1) (st.flatMap nat1 ++ [.int .i64 x])) (hg : wr.grownBy w' vS.ownBlock) (hat : v'.ownBlock = vS.ownBlock ∨ ∃ b, v'.ownBlock = some b ∧ wr.heap.size ≤ b) : AccO W w' v' vP vR (st ++ [x]) ps r := by
  refine ⟨by simpa [OwnK, nat1] using hown, World.ownsRow.kept h.op hg ?_, fun b e1 e2 => ?_, h.rs.kept h.os hg, Below.push h.n h.os hg h.n.size⟩
  · cases hP : vP.ownBlock with
    | none => exact .inl rfl
    | some b => right; intro e; exact h.dis b e.symm hP
  · rcases hat with e | ⟨b', e, hb⟩
    · exact h.dis b (e ▸ e1) e2
    · rw [e1] at e; cases e
      have := (h.op.lt _ e2).2; omega
theorem AccO.pushP (h : AccO W wr vS vP vR st ps r) {x : Nat} {v' : Value} (hown : w'.ownsRow W.heap.size 3 1 v' (ps.length + 1) (ps.flatMap nat1 ++ [.int .i64 x])) (hg : wr.grownBy w' vP.ownBlock) (hat : v'.ownBlock = vP.ownBlock ∨ ∃ b, v'.ownBlock = some b ∧ wr.heap.size ≤ b) : AccO W w' vS v' vR st (ps ++ [x]) r := by
  refine ⟨World.ownsRow.kept h.os hg ?_, by simpa [OwnK, nat1] using hown, fun b e1 e2 => ?_, h.rs.kept h.op hg, Below.push h.n h.op hg h.n.size⟩
  · cases hS : vS.ownBlock with
    | none => exact .inl rfl
    | some b => right; intro e; exact h.dis b hS e.symm
  · rcases hat with e | ⟨b', e, hb⟩
    · exact h.dis b e1 (e ▸ e2)
    · rw [e2] at e; cases e
      have := (h.os.lt _ e1).2; omega
theorem AccO.take {a : Option Addr} {n c : Nat} (h : AccO W wr (.slice a n c) vP vR st ps r) {m : Nat} (hm : m ≤ st.length) (h0 : 0 < st.length) : AccO W wr (.slice a m c) vP vR (st.take m) ps r := by
  refine ⟨owns_take nat1_len h.os hm h0, h.op, fun b e1 e2 => h.dis b ?_ e2, h.rs, h.n⟩
  cases a <;> exact e1
theorem AccO.cap {a : Option Addr} {n c : Nat} (h : AccO W wr (.slice a n c) vP vR st ps r) : n ≤ c := by
  rcases h.os.2 with ⟨e, hz⟩ | ⟨g, cap, cur, e1, _, hg, h1, _⟩
  · cases e; exact Nat.le_refl _
  · cases e1; exact h1
theorem AccO.drop {x : Str} {v' : Value} (h : AccO W wr vS vP vR st ps (x :: r)) (hd : RsO wr vR (x :: r) → RsO wr v' r) : AccO W wr vS vP v' st ps r := ⟨h.os, h.op, h.dis, hd h.rs, h.n⟩
theorem AccO.topS (h : AccO W wr vS vP vR st ps r) {k : Nat} (hk : st[st.length - 1]? = some k) : ∃ b c, vS = .slice (some ⟨b, 0, none⟩) st.length c ∧ wr.cell? ⟨b, st.length - 1, none⟩ = some (.int .i64 (k : Int)) := by
  have hl : st.length - 1 < st.length := (List.getElem?_eq_some_iff.1 hk).1
  have h1 := RowK.of_owns nat1_len h.os
  obtain ⟨a, c, e⟩ := h1.slice
  subst e
  rcases h.os.2 with ⟨_, hz⟩ | ⟨g, cap, cur, e1, _, hg, _, h2, _, h4⟩
  · omega
  · cases e1
    refine ⟨g, c, rfl, ?_⟩
    obtain ⟨b, o, e, hcell⟩ := h1.elem hl
    cases e
    have := elem1 hcell
    simp only [Nat.zero_add] at this
    rw [this]
    have e3 : st[st.length - 1] = k := (List.getElem?_eq_some_iff.1 hk).2
    rw [e3]; rfl
end
end Go.Proofs.YtdejcdmgcckmoaaGreatDoor
namespace Go.Proofs.YtdejcdmgcckmoaaGreatDoor
open Lr

/-! The parser's steps, in plain words. -/
structure Prs (g : Gram) (Γ : List (List Str)) (word γ raw : List Str) (ps st : List Nat) : Prop where
  ex : ∃ l, raw = l ++ [eofS] ∧ (∀ s ∈ l, s ∈ word) ∧ Drv g Γ word γ (l ++ [endS]) ps st
  le : ps.length ≤ 9301
section
variable {g : Gram} {Γ : List (List Str)} {word γ raw : List Str} {ps st : List Nat}
theorem Prs.init (h : GamOk g Γ) (word : List Str) : Prs g Γ word [] (word ++ [eofS]) [] [0] := ⟨⟨word, rfl, fun _ h => h, Drv.init h word⟩, Nat.zero_le _⟩
theorem Prs.head (h : Prs g Γ word γ raw ps st) (hw : WordOk g word) : ∃ t raw', raw = t :: raw' ∧ TrmS g t ∧ raw'.length ≤ word.length := by
  obtain ⟨⟨l, rfl, hl, hd⟩, _⟩ := h
  have hle := hd.le
  cases l with
  | nil => exact ⟨eofS, [], rfl, .inl rfl, Nat.zero_le _⟩
  | cons t l => exact ⟨t, l ++ [eofS], rfl, (hw.raw t (hl t (by simp))).2, by simp at hle ⊢; omega⟩
theorem Prs.told {t : Str} {raw' : List Str} (h : Prs g Γ word γ (t :: raw') ps st) (hw : WordOk g word) : ∃ r, Drv g Γ word γ (toldS t :: r) ps st ∧ (∀ l, t :: raw' = l ++ [eofS] → l ≠ [] → ∃ l', raw' = l' ++ [eofS] ∧ r = l' ++ [endS]) ∧ (r = [] → raw' = []) := by
  obtain ⟨⟨l, e, hl, hd⟩, _⟩ := h
  cases l with
  | nil =>
    simp at e
    obtain ⟨rfl, rfl⟩ := e
    exact ⟨[], by rw [told_end]; exact hd, fun l e hne => (by
      cases l with
      | nil => exact absurd rfl hne
      | cons x l => simp at e), fun _ => rfl⟩
  | cons t' l =>
    simp at e
    obtain ⟨rfl, rfl⟩ := e
    refine ⟨l ++ [endS], by rw [(hw.raw t (hl t (by simp))).1]; exact hd, fun l2 e2 _ => ⟨l, rfl, rfl⟩, fun e => by simp at e⟩
theorem Prs.none {t : Str} {raw' : List Str} (h : Prs g Γ word γ (t :: raw') ps st) (hw : WordOk g word) (hs : Single g) (ha : ∀ x, ¬ Says g γ (toldS t) x) : ¬ ∃ n, D g n [Lr.start g] word := by
  obtain ⟨r, hd, _⟩ := h.told hw
  exact Drv.no hs hd ha
theorem Prs.accept {t : Str} {raw' : List Str} (h : Prs g Γ word γ (t :: raw') ps st) (hm : Sm g) (hw : WordOk g word) (ha : Says g γ (toldS t) .accept) : (∃ n, D g n [Lr.start g] word) ∧ Der g [Lr.start g] ps.reverse word := by
  obtain ⟨r, hd, _⟩ := h.told hw
  exact Drv.yes hm hw hd ha
theorem Prs.shift {t : Str} {raw' : List Str} (h : Prs g Γ word γ (t :: raw') ps st) (hm : Sm g) (hw : WordOk g word) {k j : Nat} (hk : st[st.length - 1]? = some k) (he : EdgeC g Γ k (toldS t) j) (ha : Says g γ (toldS t) .shift) : ∃ γ', Prs g Γ word γ' raw' ps (st ++ [j]) := by
  obtain ⟨⟨l, e, hl, hd⟩, hle⟩ := h
  cases l with
  | nil =>
    simp at e
    obtain ⟨rfl, rfl⟩ := e
    rw [told_end] at he ha
    exact (Drv.ne (Drv.shift (noEnd_of hm) (r := []) hd hk he ha)).elim
  | cons t' l =>
    simp at e
    obtain ⟨rfl, rfl⟩ := e
    rw [(hw.raw t (hl t (by simp))).1] at he ha
    exact ⟨_, ⟨⟨l, rfl, fun s hs => hl s (by simp [hs]), Drv.shift (noEnd_of hm) hd hk he ha⟩, hle⟩⟩
theorem Prs.reduce {t : Str} {raw' : List Str} (h : Prs g Γ word γ (t :: raw') ps st) (hm : Sm g) (hg : GOk g) (hs : Single g) (hL : Lite g) (hF : Full g Γ) (hw : WordOk g word) {p : Nat} (ha : Says g γ (toldS t) (.reduce p)) :
    ∃ A b k j γ', g[p]? = some (A, b) ∧ b.length + 1 ≤ st.length ∧ (st.take (st.length - b.length))[st.length - b.length - 1]? = some k ∧ nF g Γ k A = j ∧ Prs g Γ word γ' (t :: raw') (ps ++ [p]) (st.take (st.length - b.length) ++ [j]) := by
  obtain ⟨⟨l, e, hl, hd⟩, hle⟩ := h
  have key : ∀ r, l ++ [endS] = toldS t :: r → ∃ A b k j γ', g[p]? = some (A, b) ∧ b.length + 1 ≤ st.length ∧ (st.take (st.length - b.length))[st.length - b.length - 1]? = some k ∧ nF g Γ k A = j ∧ Prs g Γ word γ' (t :: raw') (ps ++ [p]) (st.take (st.length - b.length) ++ [j]) := fun r er => by
    rw [er] at hd
    have hb := Drv.bound hm hg hs hL hw hd ha
    obtain ⟨A, b, α, k, j, h1, h2, h3, h4, h5⟩ := hd.reduce hF ha
    exact ⟨A, b, k, j, _, h1, h2, h3, nF_eq hF.toGamOk h4, ⟨⟨l, e, hl, by rw [er]; exact h5⟩, by simp; omega⟩⟩
  cases l with
  | nil =>
    simp at e
    obtain ⟨rfl, rfl⟩ := e
    exact key [] (by rw [told_end]; rfl)
  | cons t' l =>
    simp at e
    obtain ⟨rfl, rfl⟩ := e
    exact key _ (by rw [(hw.raw t (hl t (by simp))).1]; rfl)
theorem Prs.stl (h : Prs g Γ word γ raw ps st) (hw : WordOk g word) : st.length ≤ 9320 ∧ raw.length ≤ word.length + 1 := by
  obtain ⟨⟨l, rfl, _, hd⟩, hle⟩ := h
  have h1 := hd.cnt
  have h2 := hd.le
  have h3 := hw.len
  simp at h1 h2 ⊢; omega
theorem Prs.top (h : Prs g Γ word γ raw ps st) : ∃ k δ, st[st.length - 1]? = some k ∧ Γ[k]? = some δ ∧ Same g δ γ := by
  obtain ⟨⟨l, rfl, _, hd⟩, _⟩ := h
  exact hd.stk.top
theorem Prs.in (h : Prs g Γ word γ raw ps st) {i k : Nat} (hk : st[i]? = some k) : k < Γ.length := by
  obtain ⟨⟨l, rfl, _, hd⟩, _⟩ := h
  obtain ⟨δ, h1, _⟩ := hd.stk.row i k hk
  exact (List.getElem?_eq_some_iff.1 h1).1
end
end Go.Proofs.YtdejcdmgcckmoaaGreatDoor
namespace Go.Proofs.YtdejcdmgcckmoaaGreatDoor
open Go.RowKit Go.Sort Lr

theorem ex_nodup {α : Type} (L : List α) : ∃ E : List α, E.Nodup ∧ ∀ x, x ∈ E ↔ x ∈ L := by
  classical
  induction L with
  | nil => exact ⟨[], List.nodup_nil, fun _ => Iff.rfl⟩
  | cons y L ih =>
    obtain ⟨E, h1, h2⟩ := ih
    by_cases h : y ∈ E
    · refine ⟨E, h1, fun x => ?_⟩
      rw [h2, List.mem_cons]
      constructor
      · exact .inr
      · rintro (e | h3)
        · rw [e]; exact (h2 y).1 h
        · exact h3
    · refine ⟨y :: E, List.nodup_cons.2 ⟨h, h1⟩, fun x => ?_⟩
      rw [List.mem_cons, List.mem_cons, h2]
/-- What the package's states tell. -/
theorem gst_told {g : Gram} {w0 w W : World} {e1 e2 e3 vS : Value} {q c : Nat} {R : List Rec} {D : Nat → List Str} (hG : GSt g w0 w W e1 e2 e3 q vS R (collC g (symsG g) c) D) (hd : DoneC g (symsG g) c) : ∃ E, Lr.Told g (collC g (symsG g) c) (LsR R) E := by
  classical
  have hF := hd.full fun X hX => symsG_all hX
  obtain ⟨E, h1, h2⟩ := ex_nodup (((List.range R.length).flatMap fun k => (symsG g).flatMap fun X => (List.range R.length).map fun j => ((k, X, j) : Edg)).filter fun x => decide (EdgeC g (collC g (symsG g) c) x.1 x.2.1 x.2.2))
  refine ⟨E, hF, by simp [LsR, hG.len], fun k γ l hk hl i => ?_, fun x => ?_, h1⟩
  · have hkR : k < R.length := by rw [hG.len]; exact (List.getElem?_eq_some_iff.1 hk).1
    unfold LsR at hl
    rw [List.getElem?_map, List.getElem?_eq_getElem hkR] at hl
    cases hl
    have := (hG.recs k hkR).all i
    rw [(List.getElem?_eq_some_iff.1 hk).2] at this
    exact this
  · rw [h2, List.mem_filter]
    constructor
    · exact fun h => by simpa using h.2
    · intro he
      obtain ⟨k, X, j⟩ := x
      refine ⟨?_, by simpa using he⟩
      have hlt := he.lt
      rw [← hG.len] at hlt
      obtain ⟨_, _, _, _, hl, _⟩ := he
      simp only [List.mem_flatMap, List.mem_range, List.mem_map]
      exact ⟨k, hlt.1, X, symsG_all hl.sym, j, hlt.2, rfl⟩
/-- The package's step at a state of its list. -/
theorem gst_says {g : Gram} (hm : Sm g) {w0 w W : World} {e1 e2 e3 vS : Value} {q c : Nat} {R : List Rec} {D : Nat → List Str} (hG : GSt g w0 w W e1 e2 e3 q vS R (collC g (symsG g) c) D) (hd : DoneC g (symsG g) c) (hN : NoStop g) (hR : R.length ≤ 1000) {k : Nat} {γ δ : List Str} (hk : (collC g (symsG g) c)[k]? = some δ) (hs : Same g δ γ) {t : Str} (ht : TrmS g t) :
    match (stF g (collC g (symsG g) c) (LsR R) k t).1 with
    | .err => ∀ x, ¬ Says g γ (toldS t) x
    | .acc => Says g γ (toldS t) .accept
    | .red m => ∃ p, m = p + 1 ∧ Says g γ (toldS t) (.reduce p)
    | .sh n => Says g γ (toldS t) .shift ∧ EdgeC g (collC g (symsG g) c) k (toldS t) n := by
  obtain ⟨E, hT⟩ := gst_told hG hd
  have hkR : k < R.length := by rw [hG.len]; exact (List.getElem?_eq_some_iff.1 hk).1
  have hF := rec_f hm hN hG hR hkR
  rw [stF_rec hkR]
  have hM := foldA_met (hF.meet t) (k := (actsI g t (nF g (collC g (symsG g) c) k t) (R[k].L.map (·.2))).length) (Nat.le_refl _)
  rw [List.take_length] at hM
  refine act_says hm hT hk hs (fun x => ?_) ht hM
  have := (hG.recs k hkR).all x
  rw [(List.getElem?_eq_some_iff.1 hk).2] at this
  exact this
end Go.Proofs.YtdejcdmgcckmoaaGreatDoor

/- A part of the proofs about gocc: F5. -/
import Derived.Test.YtdejcdmgcckmoaaGreatDoorXF4
namespace Go.Proofs.YtdejcdmgcckmoaaGreatDoor
open Go.RowKit Lr

theorem countP_le {α : Type} {p p' : α → Bool} (h : ∀ x, p' x = true → p x = true) (U : List α) : U.countP p' ≤ U.countP p := List.countP_mono_left fun x _ hx => h x hx
theorem countP_lt {α : Type} {p p' : α → Bool} (h : ∀ x, p' x = true → p x = true) : ∀ {U : List α} {x : α}, x ∈ U → p x = true → p' x = false → U.countP p' + 1 ≤ U.countP p
  | a :: U, x, hx, h1, h2 => by
    rcases List.mem_cons.1 hx with rfl | hx
    · rw [List.countP_cons_of_pos h1, List.countP_cons_of_neg (by simp [h2])]
      have := countP_le h U
      omega
    · have ih := countP_lt h hx h1 h2
      rw [List.countP_cons, List.countP_cons]
      by_cases e : p' a = true
      · simp [e, h a e]; omega
      · simp [e]; omega

/-- The pairs that are not told yet. -/
def miss (U : List (Str × Str)) (sg : Str → Option (Nat × (Str → Bool))) : Nat := U.countP fun x => !tau sg x.1 x.2
theorem miss_lt {U : List (Str × Str)} {sg sg' : Str → Option (Nat × (Str → Bool))} {A t : Str} (h : ∀ A' s, tau sg' A' s = (tau sg A' s || (decide (A' = A) && decide (s = t)))) (hU : (A, t) ∈ U) (ht : tau sg A t = false) : miss U sg' + 1 ≤ miss U sg := by
  refine countP_lt (fun x hx => ?_) hU (by simp [ht]) (by simp [h])
  rw [h] at hx
  cases hh : tau sg x.1 x.2
  · rfl
  · simp [hh] at hx
theorem miss_eq {U : List (Str × Str)} {sg sg' : Str → Option (Nat × (Str → Bool))} (h : ∀ A' s, tau sg' A' s = tau sg A' s) : miss U sg' = miss U sg := by
  unfold miss
  congr 1
  funext x
  rw [h]
theorem added_step {w w' : World} {B p M n : Nat} {sym : Value} {sg sg' : Str → Option (Nat × (Str → Bool))} {A t : Str} (h : Added w w' B p M sym sg sg' n A t) {U : List (Str × Str)} (hU : (A, t) ∈ U) :
    ∃ n', FsSt w' B p M sym sg' n' ∧ n' + miss U sg' ≤ n + miss U sg ∧ n ≤ n' ∧ (tau sg A t = false → miss U sg' < miss U sg) ∧ (tau sg A t = true → ∀ A' s, tau sg' A' s = tau sg A' s) := by
  refine ⟨_, h.st, ?_, ?_, fun ht => ?_, fun ht A' s => ?_⟩
  · by_cases ht : tau sg A t = true
    · rw [if_pos ht, miss_eq (sg' := sg') (sg := sg)]
      · exact Nat.le_refl _
      · intro A' s
        rw [h.tau]
        by_cases e : A' = A ∧ s = t
        · rw [e.1, e.2, ht]; simp
        · cases hx : tau sg A' s
          · simp; intro e1 e2; exact e ⟨e1, e2⟩
          · simp
    · have := miss_lt h.tau hU (by simpa using ht)
      rw [if_neg ht]
      omega
  · split <;> omega
  · have := miss_lt h.tau hU ht
    omega
  · rw [h.tau]
    by_cases e : A' = A ∧ s = t
    · rw [e.1, e.2, ht]; simp
    · cases hx : tau sg A' s
      · simp; intro e1 e2; exact e ⟨e1, e2⟩
      · simp

theorem RangeV.same {P : Program} {kt : TypeId} {w w' : World} {v : Value} {r n cnt : Nat} {f : Str → Option Value} {L : Str → Bool} (h : RangeV P kt w v r n f L cnt) (hr : w'.heap[r]? = w.heap[r]?) (hb : ∀ b, v = .map (some b) → w'.heap[b]? = w.heap[b]?) : RangeV P kt w' v r n f L cnt := by
  rcases h with ⟨e1, e2, e3⟩ | ⟨b, e1, D, lf, h, h2⟩
  · exact .inl ⟨e1, hr.trans e2, e3⟩
  · refine .inr ⟨b, e1, D, lf, ?_, h2⟩
    obtain ⟨es, clock, since, seen, c0, q1, F, hs, hD, q2, rest⟩ := h
    exact ⟨es, clock, since, seen, c0, (hb b e1).trans q1, F, hs, hD, hr.trans q2, rest⟩

set_option maxRecDepth 20000 in
set_option maxHeartbeats 1000000 in
theorem AddSet_any {w : World} {B p M n n3 : Nat} {sym v3 : Value} {sg : Str → Option (Nat × (Str → Bool))} {S3 : Str → Bool} (h : FsSt w B p M sym sg n) (A : Str) (hA : A.length ≤ 1000000) (h3 : SetV w v3 n3 S3)
    (hoff : ∀ b, v3 = .map (some b) → FsOff M sg b ∧ b ≠ p) (U : List (Str × Str)) (hU : ∀ s, S3 s = true → (A, s) ∈ U) (hn : n + miss U sg ≤ 1000000000000000) (hB : B ≤ w.heap.size) :
    Calls Tryz.prog 136 #[.pointer (some ⟨p, 0, none⟩), sv A, v3] w fun e w' => ∃ b, e = .returned (.bool b) ∧ ∃ sg' n', FsSt w' B p M sym sg' n' ∧ n' + miss U sg' ≤ n + miss U sg ∧
      (∀ A' s, tau sg' A' s = (tau sg A' s || (decide (A' = A) && S3 s))) ∧ (b = true → miss U sg' < miss U sg) ∧ (b = false → ∀ A' s, tau sg' A' s = tau sg A' s) ∧ Below B w w' := by
  have hp := lt_of_block h.blk
  have hM := h.map.lt
  have H0 := Lib.hid h
  have HO := Lib.hid hoff
  have HU := Lib.hid hU
  clear hoff hU h
  go_enter Tryz.func136, Tryz.ntmps136
  go_wp2_with (first | (at_range; refine wpList_vrange _ rfl _ 82 4 rfl Tryz.underlying9 Tryz.underlying82 v3 n3 (bitF S3) rfl h3 ?_; intro w0 cnt0 hrg0 hg0))
  go_frame
  go_loopg [6, 7] n3 (fun gk u6 u7 wr => ∃ (b : Bool) (cnt n' : Nat) (L : Str → Bool) (sg' : Str → Option (Nat × (Str → Bool))), u6 = .bool b ∧ RangeV Tryz.prog 9 wr v3 w.heap.size n3 (bitF S3) L cnt ∧ cnt ≤ gk ∧ FsSt wr B p M sym sg' n' ∧ n' + miss U sg' ≤ n + miss U sg ∧
      (∀ A' s, tau sg' A' s = (tau sg A' s || (decide (A' = A) && (S3 s && !L s)))) ∧ (b = true → miss U sg' < miss U sg) ∧ (b = false → ∀ A' s, tau sg' A' s = tau sg A' s) ∧ Below B w wr ∧ FsOff M sg' w.heap.size ∧ (∀ c, v3 = .map (some c) → FsOff M sg' c))
  case atStart =>
    have hn0 : New w w0 := ⟨hg0.os, hg0.tape, hg0.output, hg0.size, fun k hk => hg0.block k hk (by simp)⟩
    refine ⟨false, cnt0, n, _, sg, rfl, hrg0, hrg0.cnt_le, H0.out.new hn0, Nat.le_refl _, fun A' s => ?_, by simp, fun _ _ _ => rfl, Below.mono hn0 hB, ⟨by omega, fun A q e => by have := (H0.out.set A q e).lt; omega⟩, fun c e => (HO.out c e).1⟩
    rw [bitF_some]
    cases S3 s <;> simp
  case round =>
    clear hrg0 hg0 h3
    obtain ⟨b, cnt, n', L, sg', rfl, hrg, hc, hst, hnm, htau, hb1, hb2, hbel, hoff1, hoff2⟩ := hrel
    have HR := Lib.hid (And.intro htau (And.intro hb1 (And.intro hb2 (And.intro hoff1 hoff2))))
    have hBr := Nat.le_trans hB hbel.size
    clear htau hb1 hb2 hoff1 hoff2
    go_wp2_with (first | (at_next; refine wpList_vnext _ rfl _ rfl Tryz.underlying9 v3 w.heap.size n3 (bitF S3) L cnt rfl hrg ?_ ?_))
    · intro hl
      have HL2 := Lib.hid hl
      clear hl
      go_wp2
      go_ret
      obtain ⟨htau, hb1, hb2, _⟩ := HR.out
      refine ⟨b, rfl, sg', n', hst, hnm, fun A' s => ?_, hb1, hb2, hbel⟩
      rw [htau, HL2.out]
      simp
    · intro s u w1 cnt1 hsl hLs hfs hrg1 hlt hg1 hsz1 hent
      obtain ⟨htau, hb1, hb2, hoff1, hoff2⟩ := HR.out
      have hst1 : FsSt w1 B p M sym sg' n' := by
        refine ⟨(hg1.block p (lt_of_block hst.blk) (by intro e; injection e with e; omega)).trans hst.blk, hst.map.kept hg1 (by intro e; injection e with e; exact hoff1.1 e.symm), fun A q e => (hst.set A q e).kept hg1 (by intro e2; injection e2 with e2; exact hoff1.2 A q e e2.symm), hst.setB, hst.inj, hst.pB, hst.mB⟩
      have hB1 : B ≤ w1.heap.size := by omega
      have hS3s : S3 s = true := by
        have := bitF_some S3 s
        rw [hfs] at this
        exact this.symm
      have hq := Lib.hid (AddToken_any hst1 A s hA hsl (by omega) hB1)
      have HS := Lib.hid (And.intro hLs hS3s)
      have hbelow1 : Below B w w1 := hbel.trans (Below.grown (Below.refl B wr) hg1 hBr (fun k hk => by injection hk with hk; omega))
      have HB := Lib.hid hbelow1
      clear hst hfs hLs hS3s htau hb1 hb2 hoff1 hoff2 hrg hg1 hsz1 hbelow1
      have hmem := HU.out s HS.out.2
      have HM := Lib.hid hmem
      clear hmem
      cases ht : tau sg' A s with
      | true =>
        rw [ht] at hq
        have HT := Lib.hid ht
        clear ht
        go_wp2_with (go_at_call 132; refine hq.out.mono ?_; rintro e w2 ⟨rfl, sg2, had⟩)
        obtain ⟨n2, hst2, hm2, hn2, hlt2, heq2⟩ := added_step had HM.out
        obtain ⟨htau, hb1, hb2, hoff1, hoff2⟩ := HR.out
        have hr1 := hrg1.lt
        have hoffr := had.off w.heap.size hr1 hoff1 (by omega)
        go_roundg cnt1
        case measure => omega
        case rel =>
          have hsame := heq2 HT.out
          refine ⟨b, cnt1, n2, _, sg2, rfl, hrg1.same hoffr.1 (fun c e => (had.off c ?_ (hoff2 c e) (HO.out c e).2).1), Nat.le_refl _, hst2, by omega, fun A' s' => ?_, fun hb => ?_, fun hb A' s' => ?_, HB.out.trans had.below, hoffr.2, fun c e => (had.off c ?_ (hoff2 c e) (HO.out c e).2).2⟩
          · rcases hrg1 with ⟨e1, _⟩ | ⟨b', e1, h1⟩
            · rw [e1] at e; cases e
            · rw [e1] at e; cases e; exact h1.map.lt
          · rw [hsame, htau]
            by_cases e : A' = A
            · by_cases e2 : s' = s
              · subst e e2
                have h1 := HT.out
                rw [htau] at h1
                simp only [decide_true, HS.out.1, HS.out.2, Bool.not_true, Bool.and_false, Bool.or_false] at h1
                rw [h1]; simp
              · simp [e2]
            · simp [e]
          · rw [miss_eq hsame]; exact hb1 hb
          · rw [hsame]; exact hb2 hb A' s'
          · rcases hrg1 with ⟨e1, _⟩ | ⟨b', e1, h1⟩
            · rw [e1] at e; cases e
            · rw [e1] at e; cases e; exact h1.map.lt
      | false =>
        rw [ht] at hq
        have HT := Lib.hid ht
        clear ht
        go_wp2_with (go_at_call 132; refine hq.out.mono ?_; rintro e w2 ⟨rfl, sg2, had⟩)
        obtain ⟨n2, hst2, hm2, hn2, hlt2, heq2⟩ := added_step had HM.out
        obtain ⟨htau, hb1, hb2, hoff1, hoff2⟩ := HR.out
        have hr1 := hrg1.lt
        have hoffr := had.off w.heap.size hr1 hoff1 (by omega)
        have hlt3 := hlt2 HT.out
        go_roundg cnt1
        case measure => omega
        case rel =>
          refine ⟨true, cnt1, n2, _, sg2, rfl, hrg1.same hoffr.1 (fun c e => (had.off c ?_ (hoff2 c e) (HO.out c e).2).1), Nat.le_refl _, hst2, by omega, fun A' s' => ?_, fun _ => ?_, (by simp), HB.out.trans had.below, hoffr.2, fun c e => (had.off c ?_ (hoff2 c e) (HO.out c e).2).2⟩
          · rcases hrg1 with ⟨e1, _⟩ | ⟨b', e1, h1⟩
            · rw [e1] at e; cases e
            · rw [e1] at e; cases e; exact h1.map.lt
          · rw [had.tau, htau]
            by_cases e : A' = A
            · by_cases e2 : s' = s
              · subst e e2
                simp [HS.out.1, HS.out.2]
              · simp [e2]
            · simp [e]
          · cases b with
            | true => have := hb1 rfl; omega
            | false => rw [← miss_eq (hb2 rfl)]; exact hlt3
          · rcases hrg1 with ⟨e1, _⟩ | ⟨b', e1, h1⟩
            · rw [e1] at e; cases e
            · rw [e1] at e; cases e; exact h1.map.lt
end Go.Proofs.YtdejcdmgcckmoaaGreatDoor

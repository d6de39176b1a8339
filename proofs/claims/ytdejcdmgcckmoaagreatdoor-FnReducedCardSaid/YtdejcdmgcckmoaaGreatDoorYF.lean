/- The package: sets of strings and first sets. -/
import Derived.Test.YtdejcdmgcckmoaaGreatDoorYB
import Derived.Test.YtdejcdmgcckmoaaGreatDoorYE
import Derived.Deep.LoopGhost
import Derived.Laws.MakeOwn
namespace Go.Proofs.YtdejcdmgcckmoaaGreatDoor
open Go.RowKit Lr

/-- A set of strings, as a map to true. -/
def bitF (S : Str → Bool) : Str → Option Value := fun s => if S s then some (.bool true) else none
abbrev SetF (w : World) (b n : Nat) (S : Str → Bool) : Prop := MapF Tryz.prog 9 w b n (bitF S)
abbrev SetV (w : World) (v : Value) (n : Nat) (S : Str → Bool) : Prop := MapV Tryz.prog 9 w v n (bitF S)
theorem bitF_put (S : Str → Bool) (s : Str) : putF (bitF S) s (.bool true) = bitF fun t => decide (t = s) || S t := by
  funext t
  unfold putF bitF
  by_cases h : t = s <;> simp [h]
theorem bitF_some (S : Str → Bool) (s : Str) : (bitF S s).isSome = S s := by unfold bitF; cases S s <;> rfl
theorem bitF_empty : (fun _ => none) = bitF fun _ => false := by funext t; rfl
theorem z4 (w : World) : (zeroValue 4).run Tryz.prog w = .ok (.bool false) w := by kernel_rfl

set_option maxRecDepth 20000 in
set_option maxHeartbeats 1000000 in
theorem SAddSet_any {w : World} {m1 n1 n2 : Nat} {S1 S2 : Str → Bool} {v2 : Value} (h1 : SetF w m1 n1 S1) (h2 : SetV w v2 n2 S2) (hne : ∀ b, v2 = .map (some b) → b ≠ m1) (hn : n1 + n2 ≤ 1000000000000000) :
    Calls Tryz.prog 172 #[.map (some m1), v2] w fun e w' => e = .returned (.tuple #[]) ∧ SetF w' m1 (n1 + n2) (fun t => S1 t || S2 t) ∧ w.grownBy w' (some m1) := by
  have hm1 := h1.lt
  have HNE := Lib.hid hne
  clear hne
  go_enter Tryz.func172, Tryz.ntmps172
  go_wp2_with (first | (at_range; refine wpList_vrange _ rfl _ 82 4 rfl Tryz.underlying9 Tryz.underlying82 v2 n2 (bitF S2) rfl h2 ?_; intro w0 cnt0 hrg0 hg0))
  go_frame
  go_loopg [4] n2 (fun gk u4 wr => ∃ (cnt n : Nat) (L S : Str → Bool), RangeV Tryz.prog 9 wr v2 w.heap.size n2 (bitF S2) L cnt ∧ SetF wr m1 n S ∧ cnt ≤ gk ∧ n + cnt ≤ n1 + n2 ∧ (∀ t, S t = (S1 t || (S2 t && !L t))) ∧ w.grownBy wr (some m1))
  case atStart =>
    refine ⟨cnt0, n1, _, S1, hrg0, h1.kept hg0 (by simp), hrg0.cnt_le, by have := hrg0.cnt_le; omega, fun t => ?_, hg0.but _⟩
    rw [bitF_some]
    cases S1 t <;> cases S2 t <;> rfl
  case round =>
    clear hrg0 hg0 h1 h2
    obtain ⟨cnt, n, L, S, hrg, hS, hc, hnc, hL, hg⟩ := hrel
    have HL := Lib.hid hL
    clear hL
    go_wp2_with (first | (at_next; refine wpList_vnext _ rfl _ rfl Tryz.underlying9 v2 w.heap.size n2 (bitF S2) L cnt rfl hrg ?_ ?_))
    · intro hl
      have HL2 := Lib.hid hl
      clear hl
      go_wp2
      go_end0
      refine ⟨rfl, ?_, hg⟩
      have e : S = fun t => S1 t || S2 t := by
        funext t
        rw [HL.out, HL2.out]
        simp
      rw [← e]
      exact hS.mono (by omega)
    · intro s u w1 cnt1 hsl hLs hfs hrg1 hlt hg1 hsz1 hent
      have hS1 := hS.kept hg1 (by intro e; injection e with e; omega)
      have HS := Lib.hid (And.intro hLs hfs)
      clear hS hrg hLs hfs hsz1
      go_wp2_with (first | (at_mapUpdate; go_must (refine wpList_mstore _ rfl _ _ _ _ _ rfl Tryz.underlying9 Tryz.underlying82 m1 n (bitF S) rfl hS1 (by omega) s rfl (by omega) (.bool true) rfl ?_)))
      intro w2 hS2 hg2
      rw [bitF_put] at hS2
      have hrg2 : RangeV Tryz.prog 9 w2 v2 w.heap.size n2 (bitF S2) (fun t => L t && !decide (t = s)) cnt1 := by
        rcases hrg1 with ⟨e1, e2, e3⟩ | ⟨b, e1, e2⟩
        · exact .inl ⟨e1, (hg2.block _ (lt_of_block e2) (by intro e; injection e with e; omega)).trans e2, e3⟩
        · exact .inr ⟨b, e1, e2.kept hg2 (by intro e; injection e with e; exact HNE.out b e1 e) (by intro e; injection e with e; omega)⟩
      clear hent
      go_wp2
      go_roundg cnt1
      case measure => omega
      case rel =>
        refine ⟨cnt1, n + 1, _, _, hrg2, hS2, Nat.le_refl _, by omega, fun t => ?_, (hg.andThen hg1 (by intro j e; injection e with e; left; omega)).andThen hg2 (by intro j e; right; exact e)⟩
        obtain ⟨hLs, hfs⟩ := HS.out
        have hs2 : S2 s = true := by
          have := bitF_some S2 s
          rw [hfs] at this
          exact this.symm
        rw [HL.out]
        by_cases e : t = s
        · subst e
          simp [hs2]
        · simp [e]
end Go.Proofs.YtdejcdmgcckmoaaGreatDoor
namespace Go.Proofs.YtdejcdmgcckmoaaGreatDoor
open Go.RowKit Lr

set_option maxRecDepth 20000 in
set_option maxHeartbeats 1000000 in
theorem SEqual_any {w : World} {n1 n2 : Nat} {S1 S2 : Str → Bool} {v1 v2 : Value} (h1 : SetV w v1 n1 S1) (h2 : SetV w v2 n2 S2) :
    Calls Tryz.prog 135 #[v1, v2] w fun e w' => ∃ b, e = .returned (.bool b) ∧ (b = true → ∀ s, S1 s = true → S2 s = true) ∧ New w w' := by
  go_enter Tryz.func135, Tryz.ntmps135
  go_wp2_with (first
    | (at_len; refine wpList_mlen _ rfl _ 82 4 rfl Tryz.underlying82 v1 n1 (bitF S1) rfl h1 ?_; intro k1 hk1)
    | (at_len; refine wpList_mlen _ rfl _ 82 4 rfl Tryz.underlying82 v2 n2 (bitF S2) rfl h2 ?_; intro k2 hk2)
    | (at_range; refine wpList_vrange _ rfl _ 82 4 rfl Tryz.underlying9 Tryz.underlying82 v1 n1 (bitF S1) rfl h1 ?_; intro w0 cnt0 hrg0 hg0))
  · go_ret
    exact ⟨false, rfl, by simp, New.refl _⟩
  · go_frame
    generalize ((k1 : Int) != (k2 : Int)) = bb
    go_loopg [4, 5] n1 (fun gk u4 u5 wr => ∃ (cnt : Nat) (L : Str → Bool), RangeV Tryz.prog 9 wr v1 w.heap.size n1 (bitF S1) L cnt ∧ cnt ≤ gk ∧ (∀ t, S1 t = true → L t = false → S2 t = true) ∧ w.grownBy wr none)
    case atStart =>
      refine ⟨cnt0, _, hrg0, hrg0.cnt_le, fun t e1 e2 => ?_, hg0⟩
      rw [bitF_some] at e2
      rw [e1] at e2
      cases e2
    case round =>
      clear hrg0 hg0
      obtain ⟨cnt, L, hrg, hc, hL, hg⟩ := hrel
      have HL := Lib.hid hL
      clear hL
      go_wp2_with (first | (at_next; refine wpList_vnext _ rfl _ rfl Tryz.underlying9 v1 w.heap.size n1 (bitF S1) L cnt rfl hrg ?_ ?_))
      · intro hl
        have HL2 := Lib.hid hl
        clear hl
        go_wp2
        go_ret
        exact ⟨true, rfl, fun _ s hs => HL.out s hs (HL2.out s), hg.os, hg.tape, hg.output, hg.size, fun k hk => hg.block k hk (by simp)⟩
      · intro s u w1 cnt1 hsl hLs hfs hrg1 hlt hg1 hsz1 hent
        have hgn : w.grownBy w1 none := hg.andThen hg1 (by intro j e; injection e with e; left; omega)
        have h2' := h2.kept hgn (by simp)
        have HS := Lib.hid (And.intro hLs hfs)
        clear hrg hLs hfs hsz1 hg hg1
        have hbb := bitF_some S2 s
        cases hs2 : S2 s with
        | true =>
          rw [hs2] at hbb
          have H2 := Lib.hid hs2
          clear hs2
          go_wp2_with (first | (at_lookup; refine wpList_vlook_ok _ rfl _ _ 82 4 rfl Tryz.underlying9 Tryz.underlying82 (z4 _) v2 n2 (bitF S2) rfl h2' s rfl (by omega) ?_; rw [hbb]))
          go_roundg cnt1
          case measure => omega
          case rel =>
            refine ⟨cnt1, _, hrg1, Nat.le_refl _, fun t e1 e2 => ?_, hgn⟩
            by_cases e : t = s
            · subst e; exact H2.out
            · exact HL.out t e1 (by simpa [e] using e2)
        | false =>
          rw [hs2] at hbb
          clear hs2
          go_wp2_with (first | (at_lookup; refine wpList_vlook_ok _ rfl _ _ 82 4 rfl Tryz.underlying9 Tryz.underlying82 (z4 _) v2 n2 (bitF S2) rfl h2' s rfl (by omega) ?_; rw [hbb]))
          go_ret
          exact ⟨false, rfl, by simp, hgn.os, hgn.tape, hgn.output, hgn.size, fun k hk => hgn.block k hk (by simp)⟩
end Go.Proofs.YtdejcdmgcckmoaaGreatDoor
namespace Go.Proofs.YtdejcdmgcckmoaaGreatDoor
open Go.RowKit Lr

theorem z82 (w : World) : (zeroValue 82).run Tryz.prog w = .ok (.map none) w := by kernel_rfl

/-- The first sets while they are reckoned: at each head its set's block and what it holds. -/
structure FsSt (w : World) (B p M : Nat) (sym : Value) (sg : Str → Option (Nat × (Str → Bool))) (n : Nat) : Prop where
  blk : w.heap[p]? = some (.cells #[.map (some M), sym] 157 (0, 0))
  map : MapF Tryz.prog 9 w M n (fun A => (sg A).map fun q => .map (some q.1))
  set : ∀ A q, sg A = some q → SetF w q.1 n q.2
  setB : ∀ A q, sg A = some q → B ≤ q.1 ∧ q.1 ≠ M
  inj : ∀ A A' q q', sg A = some q → sg A' = some q' → q.1 = q'.1 → A = A'
  pB : B ≤ p
  mB : B ≤ M
def tau (sg : Str → Option (Nat × (Str → Bool))) (A s : Str) : Bool := match sg A with
  | none => false
  | some q => q.2 s
theorem FsSt.new {w w' : World} {B p M n : Nat} {sym : Value} {sg : Str → Option (Nat × (Str → Bool))} (h : FsSt w B p M sym sg n) (hn : New w w') : FsSt w' B p M sym sg n :=
  ⟨hn.heap h.blk, h.map.new hn, fun A q e => (h.set A q e).new hn, h.setB, h.inj, h.pB, h.mB⟩

set_option maxRecDepth 20000 in
set_option maxHeartbeats 1000000 in
theorem IsTerminal_any {w : World} {B p m1 m2 m3 : Nat} {r2 r4 r5 : Value} {tm nt nk : List Str} {n : Nat} (st : SymSt w B p m1 m2 m3 r2 r4 r5 tm nt nk n) (s : Str) (hs : s.length ≤ 1000000) :
    Calls Tryz.prog 100 #[.pointer (some ⟨p, 0, none⟩), sv s] w fun e w' => e = .returned (.bool (!has nk s)) ∧ w = w' := by
  have c0 := cell_of_blk st.blk 1
  simp only [List.getElem?_toArray, List.getElem?_cons_zero, List.getElem?_cons_succ] at c0
  obtain ⟨f, hf, hfk⟩ := st.ntm
  have hh := hfk s
  clear hfk
  generalize has nk s = bb at *
  go_enter Tryz.func100, Tryz.ntmps100
  go_wp2_with (at_lookup; refine wpList_look_ok _ rfl _ _ _ _ rfl Tryz.underlying9 Tryz.underlying91 (z3 _) m2 n f rfl hf s rfl (by omega) ?_; rw [hh])
  go_ret
  exact ⟨rfl, rfl⟩

set_option maxRecDepth 20000 in
set_option maxHeartbeats 1000000 in
theorem GetSet_any {w : World} {B p M n : Nat} {sym : Value} {sg : Str → Option (Nat × (Str → Bool))} (h : FsSt w B p M sym sg n) (A : Str) (hA : A.length ≤ 1000000) :
    Calls Tryz.prog 57 #[.pointer (some ⟨p, 0, none⟩), sv A] w fun e w' => ∃ v, e = .returned v ∧ SetV w v n (tau sg A) ∧ (∀ b, v = .map (some b) → ∃ q, sg A = some q ∧ b = q.1) ∧ w = w' := by
  have c0 := cell_of_blk h.blk 0
  simp only [List.getElem?_toArray, List.getElem?_cons_zero] at c0
  have hf := h.map
  have hset := h.set A
  unfold tau
  cases hs : sg A with
  | none =>
    have hs' : (fun A => (sg A).map fun q => Value.map (some q.1)) A = none := by simp [hs]
    clear hset
    generalize (fun A => (sg A).map fun q => Value.map (some q.1)) = f at *
    have h1 : (f A).isSome = false := by rw [hs']; rfl
    clear hs hs' h
    go_enter Tryz.func57, Tryz.ntmps57
    go_wp2_with (at_lookup; refine wpList_look_ok _ rfl _ _ _ _ rfl Tryz.underlying9 Tryz.underlying155 (z82 _) M n f rfl hf A rfl (by omega) ?_; rw [h1])
    go_ret
    exact ⟨.map none, rfl, .inl ⟨rfl, rfl⟩, (by intro b e; cases e), rfl⟩
  | some q =>
    have hs' : (fun A => (sg A).map fun q => Value.map (some q.1)) A = some (.map (some q.1)) := by simp [hs]
    have hS := hset q hs
    clear hset
    generalize (fun A => (sg A).map fun q => Value.map (some q.1)) = f at *
    have h1 : (f A).isSome = true := by rw [hs']; rfl
    have h2 : (f A).getD (.map none) = .map (some q.1) := by rw [hs']; rfl
    clear hs hs' h
    go_enter Tryz.func57, Tryz.ntmps57
    go_wp2_with (at_lookup; refine wpList_look_ok _ rfl _ _ _ _ rfl Tryz.underlying9 Tryz.underlying155 (z82 _) M n f rfl hf A rfl (by omega) ?_; rw [h1, h2])
    go_ret
    exact ⟨.map (some q.1), rfl, .inr ⟨q.1, rfl, hS⟩, fun b e => ⟨q, rfl, by cases e; rfl⟩, rfl⟩
end Go.Proofs.YtdejcdmgcckmoaaGreatDoor
namespace Go.Proofs.YtdejcdmgcckmoaaGreatDoor
open Go.RowKit Lr

/-- Block r is none of the first sets' own. -/
def FsOff (M : Nat) (sg : Str → Option (Nat × (Str → Bool))) (r : Nat) : Prop := r ≠ M ∧ ∀ A q, sg A = some q → r ≠ q.1
def putS (sg : Str → Option (Nat × (Str → Bool))) (A : Str) (q : Nat × (Str → Bool)) : Str → Option (Nat × (Str → Bool)) := fun A' => if A' = A then some q else sg A'
theorem putS_map (sg : Str → Option (Nat × (Str → Bool))) (A : Str) (q : Nat × (Str → Bool)) : putF (fun A => (sg A).map fun q => Value.map (some q.1)) A (.map (some q.1)) = fun A' => (putS sg A q A').map fun q => Value.map (some q.1) := by
  funext A'
  unfold putF putS
  by_cases h : A' = A <;> simp [h]

theorem putS_putS (sg : Str → Option (Nat × (Str → Bool))) (A : Str) (q q' : Nat × (Str → Bool)) : putS (putS sg A q) A q' = putS sg A q' := by
  funext A'
  unfold putS
  by_cases h : A' = A <;> simp [h]
theorem tau_put (sg : Str → Option (Nat × (Str → Bool))) (A t : Str) (m : Nat) (S : Str → Bool) (hS : ∀ s, S s = (decide (s = t) || tau sg A s)) (A' s : Str) : tau (putS sg A (m, S)) A' s = (tau sg A' s || (decide (A' = A) && decide (s = t))) := by
  by_cases h : A' = A
  · subst h
    have : tau (putS sg A' (m, S)) A' s = S s := by simp [tau, putS]
    rw [this, hS]
    simp [Bool.or_comm]
  · have : tau (putS sg A (m, S)) A' s = tau sg A' s := by simp [tau, putS, h]
    rw [this]
    simp [h]
theorem FsSt.update {w w' : World} {B p M n n' m : Nat} {sym : Value} {sg : Str → Option (Nat × (Str → Bool))} {A : Str} {S : Str → Bool} {row : Option Nat} (h : FsSt w B p M sym sg n) (hg : w.grownBy w' row)
    (hrow : ∀ A' q, A' ≠ A → sg A' = some q → some q.1 ≠ row) (hp : some p ≠ row) (hmap : MapF Tryz.prog 9 w' M n' (fun A' => (putS sg A (m, S) A').map fun q => .map (some q.1))) (hS : SetF w' m n' S) (hn : n ≤ n')
    (hmB : B ≤ m) (hmM : m ≠ M) (hfresh : ∀ A' q, sg A' = some q → q.1 = m → A' = A) : FsSt w' B p M sym (putS sg A (m, S)) n' := by
  refine ⟨(hg.block p (lt_of_block h.blk) hp).trans h.blk, hmap, fun A' q e => ?_, fun A' q e => ?_, fun A1 A2 q1 q2 e1 e2 e3 => ?_, h.pB, h.mB⟩
  · unfold putS at e
    by_cases hA : A' = A
    · rw [if_pos hA] at e
      injection e with e
      subst e
      exact hS
    · rw [if_neg hA] at e
      exact ((h.set A' q e).kept hg (hrow A' q hA e)).mono hn
  · unfold putS at e
    by_cases hA : A' = A
    · rw [if_pos hA] at e
      injection e with e
      subst e
      exact ⟨hmB, hmM⟩
    · rw [if_neg hA] at e
      exact h.setB A' q e
  · unfold putS at e1 e2
    by_cases h1 : A1 = A
    · by_cases h2 : A2 = A
      · rw [h1, h2]
      · rw [if_pos h1] at e1
        rw [if_neg h2] at e2
        injection e1 with e1
        subst e1
        exact absurd (hfresh A2 q2 e2 e3.symm) h2
    · by_cases h2 : A2 = A
      · rw [if_neg h1] at e1
        rw [if_pos h2] at e2
        injection e2 with e2
        subst e2
        exact absurd (hfresh A1 q1 e1 e3) h1
      · rw [if_neg h1] at e1
        rw [if_neg h2] at e2
        exact h.inj A1 A2 q1 q2 e1 e2 e3

/-- What adding a token leaves. -/
structure Added (w w' : World) (B p M : Nat) (sym : Value) (sg sg' : Str → Option (Nat × (Str → Bool))) (n : Nat) (A t : Str) : Prop where
  st : FsSt w' B p M sym sg' (if tau sg A t then n else n + 1)
  tau : ∀ A' s, tau sg' A' s = (tau sg A' s || (decide (A' = A) && decide (s = t)))
  below : Below B w w'
  off : ∀ r, r < w.heap.size → FsOff M sg r → r ≠ p → w'.heap[r]? = w.heap[r]? ∧ FsOff M sg' r

set_option maxRecDepth 20000 in
set_option maxHeartbeats 1000000 in
theorem AddToken_any {w : World} {B p M n : Nat} {sym : Value} {sg : Str → Option (Nat × (Str → Bool))} (h : FsSt w B p M sym sg n) (A t : Str) (hA : A.length ≤ 1000000) (ht : t.length ≤ 9223372036854775807) (hn : n ≤ 1000000000000000) (hB : B ≤ w.heap.size) :
    Calls Tryz.prog 132 #[.pointer (some ⟨p, 0, none⟩), sv A, sv t] w fun e w' => e = .returned (.bool (!tau sg A t)) ∧ ∃ sg', Added w w' B p M sym sg sg' n A t := by
  have c0 := cell_of_blk h.blk 0
  simp only [List.getElem?_toArray, List.getElem?_cons_zero] at c0
  have hf := h.map
  have hp := lt_of_block h.blk
  have hMlt := hf.lt
  have hpM : p ≠ M := by
    intro e
    obtain ⟨es, cl, hm⟩ := hf.block
    rw [← e, h.blk] at hm
    cases hm
  cases hs : sg A with
  | none =>
    have hs' : (fun A => (sg A).map fun q => Value.map (some q.1)) A = none := by simp [hs]
    have HS := Lib.hid hs
    have HH := Lib.hid h
    have hta : tau sg A t = false := by simp [tau, hs]
    rw [hta]
    have HT := Lib.hid hta
    have hputs := putS_map sg A (w.heap.size, fun s => decide (s = t) || false)
    clear h hs hta
    generalize (fun A => (sg A).map fun q => Value.map (some q.1)) = f at *
    have HP := Lib.hid hputs
    have h1 : (f A).isSome = false := by rw [hs']; rfl
    have hnew : SetF (w.alloc (.map #[] 0)) w.heap.size 0 (fun _ => false) := MapF.made w
    have hfA : MapF Tryz.prog 9 (w.alloc (.map #[] 0)) M n f := hf.new ((New.refl w).alloc _)
    clear hs' hputs
    have hmm := @run_makeMap Tryz.prog
    go_enter Tryz.func132, Tryz.ntmps132
    go_wp2_with (first
      | (at_lookup; refine wpList_look_ok _ rfl _ _ _ _ rfl Tryz.underlying9 Tryz.underlying155 (z82 _) M n f rfl hf A rfl (by omega) ?_; rw [h1])
      | (at_mapUpdate; go_must (refine wpList_mstore _ rfl _ _ _ _ _ rfl Tryz.underlying9 Tryz.underlying155 M n f rfl hfA (by omega) A rfl (by omega) (.map (some w.heap.size)) rfl ?_)))
    intro w2 hf2 hg2
    rw [HP.out] at hf2
    have hnew2 := hnew.kept hg2 (by intro e; injection e with e; omega)
    have hb2 : ((bitF fun _ => false) t).isSome = false := rfl
    clear hmm
    go_wp2_with (first
      | (at_lookup; refine wpList_look_ok _ rfl _ _ _ _ rfl Tryz.underlying9 Tryz.underlying82 (z4 _) w.heap.size 0 (bitF fun _ => false) rfl hnew2 t rfl (by omega) ?_; rw [hb2])
      | (at_mapUpdate; go_must (refine wpList_mstore _ rfl _ _ _ _ _ rfl Tryz.underlying9 Tryz.underlying82 w.heap.size 0 (bitF fun _ => false) rfl hnew2 (by omega) t rfl (by omega) (.bool true) rfl ?_)))
    intro w3 hS3 hg3
    rw [bitF_put] at hS3
    have e5 : some M ≠ some w.heap.size := by intro e; injection e with e; omega
    have hf3 := hf2.kept hg3 e5
    have hgA : w.grownBy w2 (some M) := (World.grownBy_alloc w (.map #[] 0) (some M)).andThen hg2 (by intro j e; right; exact e)
    go_wp2
    go_ret
    have h := HH.out
    have hs := HS.out
    have hlt : ∀ A' q, sg A' = some q → q.1 < w.heap.size := fun A' q e => (h.set A' q e).lt
    have h2 : FsSt w2 B p M sym (putS sg A (w.heap.size, fun _ => false)) (n + 1) :=
      h.update hgA (fun A' q _ e => by have := (h.setB A' q e).2; intro e2; injection e2 with e2; exact this e2) (by intro e; injection e with e; exact hpM e) (by
        have e : (fun A' => Option.map (fun q => Value.map (some q.1)) (putS sg A (w.heap.size, fun s => decide (s = t) || false) A')) = fun A' => Option.map (fun q => Value.map (some q.1)) (putS sg A (w.heap.size, fun _ => false) A') := by
          funext A'
          unfold putS
          by_cases e : A' = A <;> simp [e]
        rw [← e]
        exact hf2) (hnew2.mono (by omega)) (by omega) hB (by omega) (fun A' q e e2 => by have := hlt A' q e; omega)
    have h3 := h2.update (A := A) (S := fun s => decide (s = t) || false) (m := w.heap.size) (n' := n + 1) hg3 (fun A' q hne e => by
        have e0 : sg A' = some q := by simpa [putS, hne] using e
        have := hlt A' q e0; intro e2; injection e2 with e2; omega) (by intro e; injection e with e; omega)
        (by rw [putS_putS]; exact hf3) (hS3.mono (by omega)) (Nat.le_refl _) hB (by omega) (fun A' q e e2 => by
        by_cases hA : A' = A
        · exact hA
        · have e0 : sg A' = some q := by simpa [putS, hA] using e
          have := hlt A' q e0; omega)
    rw [putS_putS] at h3
    refine ⟨rfl, _, ⟨by rw [HT.out]; exact h3, tau_put sg A t _ _ (fun s => by simp [tau, hs]), ?_, fun r hr hoff hrp => ⟨?_, ?_⟩⟩⟩
    · have hbB : Below B w w2 := (Below.mono (New.refl w) hB).grown hgA hB (fun k hk => by injection hk with hk; rw [← hk]; exact h.mB)
      exact hbB.grown hg3 (Nat.le_trans hB hgA.size) (fun k hk => by injection hk with hk; omega)
    · exact (hg3.block r (Nat.lt_of_lt_of_le hr hgA.size) (by intro e; injection e with e; omega)).trans (hgA.block r hr (by intro e; injection e with e; exact hoff.1 e))
    · refine ⟨hoff.1, fun A' q e => ?_⟩
      by_cases hA : A' = A
      · have : q = (w.heap.size, fun s => decide (s = t) || false) := by simpa [putS, hA, eq_comm] using e
        rw [this]; intro e; omega
      · exact hoff.2 A' q (by simpa [putS, hA] using e)
  | some q =>
    have hs' : (fun A => (sg A).map fun q => Value.map (some q.1)) A = some (.map (some q.1)) := by simp [hs]
    have hqS := h.set A q hs
    have hqB := h.setB A q hs
    have HS := Lib.hid hs
    have HH := Lib.hid h
    have hta : tau sg A t = q.2 t := by simp [tau, hs]
    have hputs := putS_map sg A (q.1, fun s => decide (s = t) || q.2 s)
    have hputid : (fun A' => (putS sg A (q.1, fun s => decide (s = t) || q.2 s) A').map fun q => Value.map (some q.1)) = fun A' => (sg A').map fun q => Value.map (some q.1) := by
      funext A'
      unfold putS
      by_cases e : A' = A
      · subst e; simp [hs]
      · simp [e]
    have HPI := Lib.hid hputid
    have hff : MapF Tryz.prog 9 w M n (fun A => (sg A).map fun q => Value.map (some q.1)) := hf
    have HF := Lib.hid hff
    have hqlt := hqS.lt
    have hqp : p ≠ q.1 := by
      intro e
      obtain ⟨es, cl, hm⟩ := hqS.block
      rw [← e, h.blk] at hm
      cases hm
    rw [hta]
    have HT := Lib.hid hta
    clear h hs hta hputs hputid hff
    generalize (fun A => (sg A).map fun q => Value.map (some q.1)) = f at hf hs'
    have h1 : (f A).isSome = true := by rw [hs']; rfl
    have h2 : (f A).getD (.map none) = .map (some q.1) := by rw [hs']; rfl
    have hb2 := bitF_some q.2 t
    clear hs'
    cases hqt : q.2 t with
    | true =>
      rw [hqt] at hb2
      have HQ := Lib.hid hqt
      clear hqt
      go_enter Tryz.func132, Tryz.ntmps132
      go_wp2_with (first
        | (at_lookup; refine wpList_look_ok _ rfl _ _ _ _ rfl Tryz.underlying9 Tryz.underlying155 (z82 _) M n f rfl hf A rfl (by omega) ?_; rw [h1, h2])
        | (at_lookup; refine wpList_look_ok _ rfl _ _ _ _ rfl Tryz.underlying9 Tryz.underlying82 (z4 _) q.1 n (bitF q.2) rfl hqS t rfl (by omega) ?_; rw [hb2]))
      go_ret
      refine ⟨rfl, sg, ⟨by rw [HT.out, HQ.out]; exact HH.out, fun A' s => ?_, Below.refl _ _, fun r hr hoff hrp => ⟨rfl, hoff⟩⟩⟩
      by_cases e : A' = A
      · subst e
        by_cases e2 : s = t
        · subst e2; rw [HT.out, HQ.out]; simp
        · simp [e2]
      · simp [e]
    | false =>
      rw [hqt] at hb2
      have HQ := Lib.hid hqt
      clear hqt
      go_enter Tryz.func132, Tryz.ntmps132
      go_wp2_with (first
        | (at_lookup; refine wpList_look_ok _ rfl _ _ _ _ rfl Tryz.underlying9 Tryz.underlying155 (z82 _) M n f rfl hf A rfl (by omega) ?_; rw [h1, h2])
        | (at_lookup; refine wpList_look_ok _ rfl _ _ _ _ rfl Tryz.underlying9 Tryz.underlying82 (z4 _) q.1 n (bitF q.2) rfl hqS t rfl (by omega) ?_; rw [hb2])
        | (at_mapUpdate; go_must (refine wpList_mstore _ rfl _ _ _ _ _ rfl Tryz.underlying9 Tryz.underlying82 q.1 n (bitF q.2) rfl hqS (by omega) t rfl (by omega) (.bool true) rfl ?_)))
      intro w3 hS3 hg3
      rw [bitF_put] at hS3
      go_wp2
      go_ret
      have h := HH.out
      have hs := HS.out
      have h3 := h.update (A := A) (S := fun s => decide (s = t) || q.2 s) (m := q.1) (n' := n + 1) hg3 (fun A' q' hne e => by
          intro e2; injection e2 with e2; exact hne (h.inj A' A q' q e hs e2)) (by intro e; injection e with e; exact hqp e)
          (by rw [HPI.out]; exact (HF.out.kept hg3 (by intro e; injection e with e; exact hqB.2 e.symm)).mono (by omega)) hS3 (by omega) hqB.1 hqB.2 (fun A' q' e e2 => h.inj A' A q' q e hs e2)
      refine ⟨rfl, _, ⟨by rw [HT.out, HQ.out]; exact h3, tau_put sg A t _ _ (fun s => by simp [tau, hs]), (Below.mono (New.refl w) hB).grown hg3 hB (fun k hk => by injection hk with hk; rw [← hk]; exact hqB.1), fun r hr hoff hrp => ⟨?_, ?_⟩⟩⟩
      · exact hg3.block r hr (by intro e; injection e with e; exact hoff.2 A q hs e)
      · refine ⟨hoff.1, fun A' q' e => ?_⟩
        by_cases hA : A' = A
        · have : q' = (q.1, fun s => decide (s = t) || q.2 s) := by simpa [putS, hA, eq_comm] using e
          rw [this]; exact hoff.2 A q hs
        · exact hoff.2 A' q' (by simpa [putS, hA] using e)
end Go.Proofs.YtdejcdmgcckmoaaGreatDoor
namespace Go.Proofs.YtdejcdmgcckmoaaGreatDoor
open Go.RowKit Lr

theorem countP_le {α : Type} {p p' : α → Bool} (h : ∀ x, p' x = true → p x = true) (U : List α) : U.countP p' ≤ U.countP p := List.countP_mono_left fun x _ hx => h x hx
theorem countP_lt {α : Type} {p p' : α → Bool} (h : ∀ x, p' x = true → p x = true) : ∀ {U : List α} {x : α}, x ∈ U → p x = true → p' x = false → U.countP p' + 1 ≤ U.countP p
  | a :: U, x, hx, h1, h2 => by
    rcases List.mem_cons.1 hx with rfl | hx
    · rw [List.countP_cons_of_pos h1, List.countP_cons_of_neg (by simp [h2])]
      have := countP_le h U
      omega
    · have ih := countP_lt h hx h1 h2
      rw [List.countP_cons, List.countP_cons]
      by_cases e : p' a = true
      · simp [e, h a e]; omega
      · simp [e]; omega

/-- The pairs that are not told yet. -/
def miss (U : List (Str × Str)) (sg : Str → Option (Nat × (Str → Bool))) : Nat := U.countP fun x => !tau sg x.1 x.2
theorem miss_lt {U : List (Str × Str)} {sg sg' : Str → Option (Nat × (Str → Bool))} {A t : Str} (h : ∀ A' s, tau sg' A' s = (tau sg A' s || (decide (A' = A) && decide (s = t)))) (hU : (A, t) ∈ U) (ht : tau sg A t = false) : miss U sg' + 1 ≤ miss U sg := by
  refine countP_lt (fun x hx => ?_) hU (by simp [ht]) (by simp [h])
  rw [h] at hx
  cases hh : tau sg x.1 x.2
  · rfl
  · simp [hh] at hx
theorem miss_eq {U : List (Str × Str)} {sg sg' : Str → Option (Nat × (Str → Bool))} (h : ∀ A' s, tau sg' A' s = tau sg A' s) : miss U sg' = miss U sg := by
  unfold miss
  congr 1
  funext x
  rw [h]
theorem added_step {w w' : World} {B p M n : Nat} {sym : Value} {sg sg' : Str → Option (Nat × (Str → Bool))} {A t : Str} (h : Added w w' B p M sym sg sg' n A t) {U : List (Str × Str)} (hU : (A, t) ∈ U) :
    ∃ n', FsSt w' B p M sym sg' n' ∧ n' + miss U sg' ≤ n + miss U sg ∧ n ≤ n' ∧ (tau sg A t = false → miss U sg' < miss U sg) ∧ (tau sg A t = true → ∀ A' s, tau sg' A' s = tau sg A' s) := by
  refine ⟨_, h.st, ?_, ?_, fun ht => ?_, fun ht A' s => ?_⟩
  · by_cases ht : tau sg A t = true
    · rw [if_pos ht, miss_eq (sg' := sg') (sg := sg)]
      · exact Nat.le_refl _
      · intro A' s
        rw [h.tau]
        by_cases e : A' = A ∧ s = t
        · rw [e.1, e.2, ht]; simp
        · cases hx : tau sg A' s
          · simp; intro e1 e2; exact e ⟨e1, e2⟩
          · simp
    · have := miss_lt h.tau hU (by simpa using ht)
      rw [if_neg ht]
      omega
  · split <;> omega
  · have := miss_lt h.tau hU ht
    omega
  · rw [h.tau]
    by_cases e : A' = A ∧ s = t
    · rw [e.1, e.2, ht]; simp
    · cases hx : tau sg A' s
      · simp; intro e1 e2; exact e ⟨e1, e2⟩
      · simp

theorem RangeV.same {P : Program} {kt : TypeId} {w w' : World} {v : Value} {r n cnt : Nat} {f : Str → Option Value} {L : Str → Bool} (h : RangeV P kt w v r n f L cnt) (hr : w'.heap[r]? = w.heap[r]?) (hb : ∀ b, v = .map (some b) → w'.heap[b]? = w.heap[b]?) : RangeV P kt w' v r n f L cnt := by
  rcases h with ⟨e1, e2, e3⟩ | ⟨b, e1, D, lf, h, h2⟩
  · exact .inl ⟨e1, hr.trans e2, e3⟩
  · refine .inr ⟨b, e1, D, lf, ?_, h2⟩
    obtain ⟨es, clock, since, seen, c0, q1, F, hs, hD, q2, rest⟩ := h
    exact ⟨es, clock, since, seen, c0, (hb b e1).trans q1, F, hs, hD, hr.trans q2, rest⟩

set_option maxRecDepth 20000 in
set_option maxHeartbeats 1000000 in
theorem AddSet_any {w : World} {B p M n n3 : Nat} {sym v3 : Value} {sg : Str → Option (Nat × (Str → Bool))} {S3 : Str → Bool} (h : FsSt w B p M sym sg n) (A : Str) (hA : A.length ≤ 1000000) (h3 : SetV w v3 n3 S3)
    (hoff : ∀ b, v3 = .map (some b) → FsOff M sg b ∧ b ≠ p) (U : List (Str × Str)) (hU : ∀ s, S3 s = true → (A, s) ∈ U) (hn : n + miss U sg ≤ 1000000000000000) (hB : B ≤ w.heap.size) :
    Calls Tryz.prog 136 #[.pointer (some ⟨p, 0, none⟩), sv A, v3] w fun e w' => ∃ b, e = .returned (.bool b) ∧ ∃ sg' n', FsSt w' B p M sym sg' n' ∧ n' + miss U sg' ≤ n + miss U sg ∧
      (∀ A' s, tau sg' A' s = (tau sg A' s || (decide (A' = A) && S3 s))) ∧ (b = true → miss U sg' < miss U sg) ∧ (b = false → ∀ A' s, tau sg' A' s = tau sg A' s) ∧ Below B w w' := by
  have hp := lt_of_block h.blk
  have hM := h.map.lt
  have H0 := Lib.hid h
  have HO := Lib.hid hoff
  have HU := Lib.hid hU
  clear hoff hU h
  go_enter Tryz.func136, Tryz.ntmps136
  go_wp2_with (first | (at_range; refine wpList_vrange _ rfl _ 82 4 rfl Tryz.underlying9 Tryz.underlying82 v3 n3 (bitF S3) rfl h3 ?_; intro w0 cnt0 hrg0 hg0))
  go_frame
  go_loopg [6, 7] n3 (fun gk u6 u7 wr => ∃ (b : Bool) (cnt n' : Nat) (L : Str → Bool) (sg' : Str → Option (Nat × (Str → Bool))), u6 = .bool b ∧ RangeV Tryz.prog 9 wr v3 w.heap.size n3 (bitF S3) L cnt ∧ cnt ≤ gk ∧ FsSt wr B p M sym sg' n' ∧ n' + miss U sg' ≤ n + miss U sg ∧
      (∀ A' s, tau sg' A' s = (tau sg A' s || (decide (A' = A) && (S3 s && !L s)))) ∧ (b = true → miss U sg' < miss U sg) ∧ (b = false → ∀ A' s, tau sg' A' s = tau sg A' s) ∧ Below B w wr ∧ FsOff M sg' w.heap.size ∧ (∀ c, v3 = .map (some c) → FsOff M sg' c))
  case atStart =>
    have hn0 : New w w0 := ⟨hg0.os, hg0.tape, hg0.output, hg0.size, fun k hk => hg0.block k hk (by simp)⟩
    refine ⟨false, cnt0, n, _, sg, rfl, hrg0, hrg0.cnt_le, H0.out.new hn0, Nat.le_refl _, fun A' s => ?_, by simp, fun _ _ _ => rfl, Below.mono hn0 hB, ⟨by omega, fun A q e => by have := (H0.out.set A q e).lt; omega⟩, fun c e => (HO.out c e).1⟩
    rw [bitF_some]
    cases S3 s <;> simp
  case round =>
    clear hrg0 hg0 h3
    obtain ⟨b, cnt, n', L, sg', rfl, hrg, hc, hst, hnm, htau, hb1, hb2, hbel, hoff1, hoff2⟩ := hrel
    have HR := Lib.hid (And.intro htau (And.intro hb1 (And.intro hb2 (And.intro hoff1 hoff2))))
    have hBr := Nat.le_trans hB hbel.size
    clear htau hb1 hb2 hoff1 hoff2
    go_wp2_with (first | (at_next; refine wpList_vnext _ rfl _ rfl Tryz.underlying9 v3 w.heap.size n3 (bitF S3) L cnt rfl hrg ?_ ?_))
    · intro hl
      have HL2 := Lib.hid hl
      clear hl
      go_wp2
      go_ret
      obtain ⟨htau, hb1, hb2, _⟩ := HR.out
      refine ⟨b, rfl, sg', n', hst, hnm, fun A' s => ?_, hb1, hb2, hbel⟩
      rw [htau, HL2.out]
      simp
    · intro s u w1 cnt1 hsl hLs hfs hrg1 hlt hg1 hsz1 hent
      obtain ⟨htau, hb1, hb2, hoff1, hoff2⟩ := HR.out
      have hst1 : FsSt w1 B p M sym sg' n' := by
        refine ⟨(hg1.block p (lt_of_block hst.blk) (by intro e; injection e with e; omega)).trans hst.blk, hst.map.kept hg1 (by intro e; injection e with e; exact hoff1.1 e.symm), fun A q e => (hst.set A q e).kept hg1 (by intro e2; injection e2 with e2; exact hoff1.2 A q e e2.symm), hst.setB, hst.inj, hst.pB, hst.mB⟩
      have hB1 : B ≤ w1.heap.size := by omega
      have hS3s : S3 s = true := by
        have := bitF_some S3 s
        rw [hfs] at this
        exact this.symm
      have hq := Lib.hid (AddToken_any hst1 A s hA hsl (by omega) hB1)
      have HS := Lib.hid (And.intro hLs hS3s)
      have hbelow1 : Below B w w1 := hbel.trans (Below.grown (Below.refl B wr) hg1 hBr (fun k hk => by injection hk with hk; omega))
      have HB := Lib.hid hbelow1
      clear hst hfs hLs hS3s htau hb1 hb2 hoff1 hoff2 hrg hg1 hsz1 hbelow1
      have hmem := HU.out s HS.out.2
      have HM := Lib.hid hmem
      clear hmem
      cases ht : tau sg' A s with
      | true =>
        rw [ht] at hq
        have HT := Lib.hid ht
        clear ht
        go_wp2_with (go_at_call 132; refine hq.out.mono ?_; rintro e w2 ⟨rfl, sg2, had⟩)
        obtain ⟨n2, hst2, hm2, hn2, hlt2, heq2⟩ := added_step had HM.out
        obtain ⟨htau, hb1, hb2, hoff1, hoff2⟩ := HR.out
        have hr1 := hrg1.lt
        have hoffr := had.off w.heap.size hr1 hoff1 (by omega)
        go_roundg cnt1
        case measure => omega
        case rel =>
          have hsame := heq2 HT.out
          refine ⟨b, cnt1, n2, _, sg2, rfl, hrg1.same hoffr.1 (fun c e => (had.off c ?_ (hoff2 c e) (HO.out c e).2).1), Nat.le_refl _, hst2, by omega, fun A' s' => ?_, fun hb => ?_, fun hb A' s' => ?_, HB.out.trans had.below, hoffr.2, fun c e => (had.off c ?_ (hoff2 c e) (HO.out c e).2).2⟩
          · rcases hrg1 with ⟨e1, _⟩ | ⟨b', e1, h1⟩
            · rw [e1] at e; cases e
            · rw [e1] at e; cases e; exact h1.map.lt
          · rw [hsame, htau]
            by_cases e : A' = A
            · by_cases e2 : s' = s
              · subst e e2
                have h1 := HT.out
                rw [htau] at h1
                simp only [decide_true, HS.out.1, HS.out.2, Bool.not_true, Bool.and_false, Bool.or_false] at h1
                rw [h1]; simp
              · simp [e2]
            · simp [e]
          · rw [miss_eq hsame]; exact hb1 hb
          · rw [hsame]; exact hb2 hb A' s'
          · rcases hrg1 with ⟨e1, _⟩ | ⟨b', e1, h1⟩
            · rw [e1] at e; cases e
            · rw [e1] at e; cases e; exact h1.map.lt
      | false =>
        rw [ht] at hq
        have HT := Lib.hid ht
        clear ht
        go_wp2_with (go_at_call 132; refine hq.out.mono ?_; rintro e w2 ⟨rfl, sg2, had⟩)
        obtain ⟨n2, hst2, hm2, hn2, hlt2, heq2⟩ := added_step had HM.out
        obtain ⟨htau, hb1, hb2, hoff1, hoff2⟩ := HR.out
        have hr1 := hrg1.lt
        have hoffr := had.off w.heap.size hr1 hoff1 (by omega)
        have hlt3 := hlt2 HT.out
        go_roundg cnt1
        case measure => omega
        case rel =>
          refine ⟨true, cnt1, n2, _, sg2, rfl, hrg1.same hoffr.1 (fun c e => (had.off c ?_ (hoff2 c e) (HO.out c e).2).1), Nat.le_refl _, hst2, by omega, fun A' s' => ?_, fun _ => ?_, (by simp), HB.out.trans had.below, hoffr.2, fun c e => (had.off c ?_ (hoff2 c e) (HO.out c e).2).2⟩
          · rcases hrg1 with ⟨e1, _⟩ | ⟨b', e1, h1⟩
            · rw [e1] at e; cases e
            · rw [e1] at e; cases e; exact h1.map.lt
          · rw [had.tau, htau]
            by_cases e : A' = A
            · by_cases e2 : s' = s
              · subst e e2
                simp [HS.out.1, HS.out.2]
              · simp [e2]
            · simp [e]
          · cases b with
            | true => have := hb1 rfl; omega
            | false => rw [← miss_eq (hb2 rfl)]; exact hlt3
          · rcases hrg1 with ⟨e1, _⟩ | ⟨b', e1, h1⟩
            · rw [e1] at e; cases e
            · rw [e1] at e; cases e; exact h1.map.lt
end Go.Proofs.YtdejcdmgcckmoaaGreatDoor
namespace Go.Proofs.YtdejcdmgcckmoaaGreatDoor
open Go.RowKit Lr

theorem make24 (n : Nat) (hn : n ≤ 1000000) (w : World) : ∃ arr : Array Value, arr.size = n ∧ (Instr.makeSlice 24 (.int .i64 n) (.int .i64 n)).run Tryz.prog w = .ok (.slice (some ⟨w.heap.size, 0, none⟩) n n) (w.alloc (.cells arr 9)) := by
  obtain ⟨i, hi, hz0, hz1, hz2⟩ := info_parts T24.row
  have := run_makeSlice (P := Tryz.prog) w 24 9 i _ T24.und hi hz0 .i64 .i64 n n (by omega) (Int.le_refl _) (by rw [hz1]; simp; omega) (by rw [hz2]; omega) (by omega)
  refine ⟨_, ?_, this⟩
  rw [size_madeCells, hz1]
  simp

set_option maxRecDepth 20000 in
set_option maxHeartbeats 1000000 in
theorem stringList_any (v : Value) (l : List Sy) (w : World) (h : SysAt w v l) (hl : l.length ≤ 1000) :
    Calls Tryz.prog 134 #[v] w fun e w' => ∃ v', e = .returned v' ∧ StrsAt w' v' (l.map Sy.str) ∧ New w w' := by
  obtain ⟨a, cap, rfl⟩ := h.slice
  obtain ⟨arr, harr, hmk⟩ := make24 l.length (by omega) w
  have H := Lib.hid h
  have HA := Lib.hid harr
  clear h harr
  go_enter Tryz.func134, Tryz.ntmps134
  go_wp2
  clear hmk
  go_loopg [11] l.length (fun gk i wr => ∃ (k : Nat) (arr : Array Value), k ≤ l.length ∧ gk = l.length - k ∧ i = .int .i64 k ∧ arr.size = l.length ∧ wr.heap[w.heap.size]? = some (.cells arr 9 (0, 0)) ∧ (∀ j, (hj : j < k) → (hj2 : j < l.length) → arr[j]? = some (sv l[j].str)) ∧ New w wr)
  case atStart => exact ⟨0, arr, Nat.zero_le _, rfl, rfl, HA.out, heap_alloc_new w _, fun j hj => by omega, (New.refl w).alloc _⟩
  case round =>
    obtain ⟨k, arr, hk, rfl, rfl, harr, hblk, hj, hn⟩ := hrel
    by_cases hlt : k < l.length
    · obtain ⟨b, o, e, c1⟩ := H.out.elem hlt
      cases e
      have c1 := hn.cell c1
      obtain ⟨u0, c2⟩ : ∃ u, wr.cell? ⟨w.heap.size, k, none⟩ = some u := ⟨arr[k], by rw [cell_of_blk hblk]; simp [harr, hlt]⟩
      have f2 := free_of_blk hblk k
      have HJ := Lib.hid (And.intro hj harr)
      have hset := set_of_blk hblk k (sv l[k].str)
      have HS := Lib.hid hset
      clear hj harr hset hblk
      generalize hsy : l[k] = sy at *
      have HY := Lib.hid hsy
      clear hsy
      have key : ∀ wr' : World, wr'.heap[w.heap.size]? = some (.cells (arr.setIfInBounds k (sv sy.str)) 9 (0, 0)) → (∃ (k' : Nat) (arr' : Array Value), k' ≤ l.length ∧ l.length - (k + 1) = l.length - k' ∧ Value.int .i64 ((k : Int) + 1) = .int .i64 k' ∧ arr'.size = l.length ∧ wr'.heap[w.heap.size]? = some (.cells arr' 9 (0, 0)) ∧ (∀ j, (hj : j < k') → (hj2 : j < l.length) → arr'[j]? = some (sv l[j].str))) := by
        intro wr' hb
        refine ⟨k + 1, _, by omega, rfl, by go_num, by simp [HJ.out.2], hb, fun j hj1 hj2 => ?_⟩
        by_cases e : j = k
        · subst e
          have hsz : j < arr.size := by rw [HJ.out.2]; exact hj2
          rw [Array.getElem?_setIfInBounds]
          simp [hsz, HY.out]
        · rw [Array.getElem?_setIfInBounds_ne (fun h => e h.symm)]
          exact HJ.out.1 j (by omega) hj2
      have HK := Lib.hid key
      clear key
      cases sy with
      | nt s =>
        simp only [Sy.val] at c1
        have hmm := met142
        go_wp2_with (first | (go_at_call 302; refine (SymStr_nt _ _).mono ?_; rintro e w' ⟨rfl, rfl⟩))
        go_roundg (l.length - (k + 1))
        case measure => omega
        case rel =>
          obtain ⟨k', arr', q1, q2, q3, q4, q5, q6⟩ := HK.out _ HS.out
          exact ⟨k', arr', q1, q2, q3, q4, q5, q6, hn.setCell (Nat.le_refl _) _⟩
      | tk s =>
        simp only [Sy.val] at c1
        have hmm := met143
        go_wp2_with (first | (go_at_call 305; refine (SymStr_tk _ _).mono ?_; rintro e w' ⟨rfl, rfl⟩))
        go_roundg (l.length - (k + 1))
        case measure => omega
        case rel =>
          obtain ⟨k', arr', q1, q2, q3, q4, q5, q6⟩ := HK.out _ HS.out
          exact ⟨k', arr', q1, q2, q3, q4, q5, q6, hn.setCell (Nat.le_refl _) _⟩
      | em =>
        simp only [Sy.val] at c1
        have hmm := met144
        go_wp2_with (first | (go_at_call 308; refine (SymStr_em _ _).mono ?_; rintro e w' ⟨rfl, rfl⟩))
        go_roundg (l.length - (k + 1))
        case measure => omega
        case rel =>
          obtain ⟨k', arr', q1, q2, q3, q4, q5, q6⟩ := HK.out _ HS.out
          exact ⟨k', arr', q1, q2, q3, q4, q5, q6, hn.setCell (Nat.le_refl _) _⟩
    · obtain rfl : k = l.length := by omega
      go_wp2
      go_ret
      refine ⟨_, rfl, ⟨_, l.length, by simp, by simp, fun _ => ⟨w.heap.size, 0, rfl, fun j hj' => ?_⟩⟩, hn⟩
      simp only [List.length_map] at hj'
      rw [cell_of_blk hblk, Nat.zero_add, hj j hj' hj']
      simp [List.getD, hj']
end Go.Proofs.YtdejcdmgcckmoaaGreatDoor
namespace Go.Proofs.YtdejcdmgcckmoaaGreatDoor
open Go.RowKit Lr

/-- The first set of a symbol. -/
def firstF (sg : Str → Option (Nat × (Str → Bool))) (nk : List Str) (s t : Str) : Bool := if has nk s then tau sg s t else decide (t = s)

set_option maxRecDepth 20000 in
set_option maxHeartbeats 1000000 in
theorem First_any {w : World} {B p M n ps Bs m1 m2 m3 ns : Nat} {r2 r4 r5 : Value} {tm nt nk : List Str} {sg : Str → Option (Nat × (Str → Bool))} (h : FsSt w B p M (.pointer (some ⟨ps, 0, none⟩)) sg n) (st : SymSt w Bs ps m1 m2 m3 r2 r4 r5 tm nt nk ns) (s : Str) (hs : s.length ≤ 1000000) :
    Calls Tryz.prog 171 #[.pointer (some ⟨p, 0, none⟩), sv s] w fun e w' => ∃ v, e = .returned v ∧ SetV w' v (n + 1) (firstF sg nk s) ∧ (∀ b, v = .map (some b) → (∃ A q, sg A = some q ∧ b = q.1) ∨ w.heap.size ≤ b) ∧ New w w' := by
  have c0 := cell_of_blk h.blk 1
  simp only [List.getElem?_toArray, List.getElem?_cons_zero, List.getElem?_cons_succ] at c0
  have hq1 := Lib.hid (IsTerminal_any st s hs)
  have hq2 := Lib.hid (GetSet_any h s hs)
  unfold firstF
  have hmm := @run_makeMap Tryz.prog
  cases hh : has nk s with
  | true =>
    rw [hh] at hq1
    clear hh h st
    simp only [if_true]
    go_enter Tryz.func171, Tryz.ntmps171
    go_wp2_with (first | (go_at_call 100; refine hq1.out.mono ?_; rintro e w' ⟨rfl, rfl⟩) | (go_at_call 57; refine hq2.out.mono ?_; rintro e w' ⟨v, rfl, hv, hb, rfl⟩))
    go_ret
    exact ⟨v, rfl, hv.mono (by omega), fun b e => by obtain ⟨q, h1, h2⟩ := hb b e; exact .inl ⟨s, q, h1, h2⟩, New.refl _⟩
  | false =>
    rw [hh] at hq1
    clear hh h st
    simp only [Bool.false_eq_true, if_false]
    have hnew : SetF (w.alloc (.map #[] 0)) w.heap.size 0 (fun _ => false) := MapF.made w
    go_enter Tryz.func171, Tryz.ntmps171
    go_wp2_with (first
      | (go_at_call 100; refine hq1.out.mono ?_; rintro e w' ⟨rfl, rfl⟩)
      | (refine wpList_minsert (w.alloc (.map #[] 0)) rfl _ _ _ _ _ rfl Tryz.underlying9 Tryz.underlying82 w.heap.size 0 (bitF fun _ => false) rfl hnew (by omega) s rfl (by omega) (.bool true) rfl ?_))
    intro w2 hS hg
    rw [bitF_put] at hS
    go_wp2
    go_ret
    refine ⟨_, rfl, .inr ⟨_, rfl, ?_⟩, fun b e => .inr (by cases e; exact Nat.le_refl _), Below.grown ((New.refl w).alloc (.map #[] 0)) hg (by simp) (fun k hk => by injection hk with hk; omega)⟩
    have e : (fun t => decide (t = s) || false) = fun t => decide (t = s) := by funext t; simp
    rw [e] at hS
    exact hS.mono (by omega)
end Go.Proofs.YtdejcdmgcckmoaaGreatDoor
namespace Go.Proofs.YtdejcdmgcckmoaaGreatDoor
open Go.RowKit Lr

theorem bitF_del (S : Str → Bool) (s : Str) : (fun u => if u = s then none else bitF S u) = bitF fun t => if t = s then false else S t := by
  funext u
  unfold bitF
  by_cases h : u = s <;> simp [h]

/-- The first set of a row of symbols. -/
def seqF (F : Str → Str → Bool) : List Str → Str → Bool
  | [], _ => false
  | s :: rest, t => if t = emptyS then (s :: rest).all (fun x => F x emptyS) else F s t || (F s emptyS && seqF F rest t)
theorem seqF_ne {F : Str → Str → Bool} {t : Str} (ht : t ≠ emptyS) : ∀ (l : List Str) (k : Nat), 1 ≤ k → k ≤ l.length → (∀ i, i + 1 < k → F (l.getD i []) emptyS = true) → (F (l.getD (k - 1) []) emptyS = false ∨ k = l.length) → seqF F l t = (l.take k).any fun s => F s t
  | [], k, h1, h2, _, _ => by simp at h2; omega
  | s :: rest, k, h1, h2, h3, h4 => by
    unfold seqF
    rw [if_neg ht]
    obtain ⟨k, rfl⟩ : ∃ j, k = j + 1 := ⟨k - 1, by omega⟩
    cases k with
    | zero =>
      simp only [List.take_succ_cons, List.take_zero, List.any_cons, List.any_nil, Bool.or_false]
      rcases h4 with h4 | h4
      · simp at h4
        rw [h4]
        simp
      · have : rest = [] := by simpa using h4
        subst this
        simp [seqF]
    | succ k =>
      have h5 := h3 0 (by omega)
      simp at h5
      have ih := seqF_ne ht rest (k + 1) (by omega) (by simpa using h2) (fun i hi => by simpa using h3 (i + 1) (by omega)) (by simpa using h4)
      rw [h5, ih, List.take_succ_cons (i := k + 1)]
      simp
theorem seqF_no {F : Str → Str → Bool} {l : List Str} {k : Nat} (hk : k < l.length) (h : F (l.getD k []) emptyS = false) : seqF F l emptyS = false := by
  cases l with
  | nil => rfl
  | cons s rest =>
    unfold seqF
    rw [if_pos rfl]
    cases ha : (s :: rest).all fun x => F x emptyS with
    | false => rfl
    | true =>
      rw [List.all_eq_true] at ha
      have hm : (s :: rest).getD k [] ∈ s :: rest := by
        rw [List.getD_eq_getElem?_getD, List.getElem?_eq_getElem hk]
        exact List.getElem_mem hk
      rw [ha _ hm] at h
      cases h
theorem seqF_yes {F : Str → Str → Bool} {l : List Str} (hl : 0 < l.length) (h : ∀ i, i < l.length → F (l.getD i []) emptyS = true) : seqF F l emptyS = true := by
  cases l with
  | nil => simp at hl
  | cons s rest =>
    unfold seqF
    rw [if_pos rfl, List.all_eq_true]
    intro x hx
    obtain ⟨i, hi, rfl⟩ := List.getElem_of_mem hx
    have := h i hi
    rw [List.getD_eq_getElem?_getD, List.getElem?_eq_getElem hi] at this
    exact this
theorem any_take {F : Str → Bool} {l : List Str} {k : Nat} (hk : k < l.length) : (l.take (k + 1)).any F = ((l.take k).any F || F l[k]) := by
  rw [List.take_add_one, List.any_append]
  simp [hk]
/-- What the loop has come to when it ends. -/
theorem seqF_end {F : Str → Str → Bool} {l : List Str} {k : Nat} (h1 : 1 ≤ k) (h2 : k ≤ l.length) (h3 : ∀ i, i + 1 < k → F (l.getD i []) emptyS = true) :
    (F (l.getD (k - 1) []) emptyS = false → (fun t => if t = emptyS then false else (l.take k).any fun s => F s t) = seqF F l) ∧ (F (l.getD (k - 1) []) emptyS = true → k = l.length → (fun t => (l.take k).any fun s => F s t) = seqF F l) := by
  refine ⟨fun h => funext fun t => ?_, fun h hk => funext fun t => ?_⟩
  · by_cases ht : t = emptyS
    · subst ht
      rw [if_pos rfl, seqF_no (k := k - 1) (by omega) h]
    · rw [if_neg ht, seqF_ne ht l k h1 h2 h3 (.inl h)]
  · by_cases ht : t = emptyS
    · subst ht
      have hall : ∀ i, i < l.length → F (l.getD i []) emptyS = true := fun i hi => by
        by_cases e : i + 1 < k
        · exact h3 i e
        · have : i = k - 1 := by omega
          rw [this]; exact h
      rw [seqF_yes (by omega) hall, List.any_eq_true]
      refine ⟨l[0], ?_, ?_⟩
      · have ht : List.take k l = l := List.take_of_length_le (by omega)
        rw [ht]; exact List.getElem_mem _
      · have := hall 0 (by omega)
        rw [List.getD_eq_getElem?_getD, List.getElem?_eq_getElem (by omega)] at this
        exact this
    · rw [seqF_ne ht l k h1 h2 h3 (.inr hk)]

set_option maxRecDepth 20000 in
set_option maxHeartbeats 2000000 in
theorem FirstS_any {w : World} {B p M n ps Bs m1 m2 m3 ns : Nat} {r2 r4 r5 v : Value} {tm nt nk : List Str} {sg : Str → Option (Nat × (Str → Bool))} (h : FsSt w B p M (.pointer (some ⟨ps, 0, none⟩)) sg n) (st : SymSt w Bs ps m1 m2 m3 r2 r4 r5 tm nt nk ns)
    (l : List Str) (hv : StrsAt w v l) (h0 : 0 < l.length) (hl : l.length ≤ 1000) (hs : ∀ s ∈ l, s.length ≤ 1000000) (hn : n ≤ 1000000000) :
    Calls Tryz.prog 133 #[.pointer (some ⟨p, 0, none⟩), v] w fun e w' => ∃ m n', e = .returned (.map (some m)) ∧ SetF w' m n' (seqF (firstF sg nk) l) ∧ w.heap.size ≤ m ∧ New w w' ∧ n' ≤ 1001 * (n + 1) := by
  obtain ⟨a, cap, rfl⟩ := hv.slice
  have hmm := @run_makeMap Tryz.prog
  have hsub : ∀ A q, sg A = some q → q.1 < w.heap.size := fun A q e => (h.set A q e).lt
  have hnew : SetF (w.alloc (.map #[] 0)) w.heap.size 0 (fun _ => false) := MapF.made w
  have hn1 : New w (w.alloc (.map #[] 0)) := (New.refl w).alloc _
  obtain ⟨b, o, e, c1⟩ := (hv.new hn1).elem h0
  cases e
  rw [Nat.add_zero] at c1
  have hqF := Lib.hid (fun (w' : World) (hnw : New w w') (s : Str) (hs : s.length ≤ 1000000) => First_any (h.new hnw) (st.new hnw) s hs)
  have HV := Lib.hid (And.intro hv hs)
  have HS := Lib.hid hsub
  have hsz1 : (w.alloc (.map #[] 0)).heap.size = w.heap.size + 1 := by simp
  have HSZ := Lib.hid hsz1
  clear hv hs hsub h st hsz1
  generalize hF : firstF sg nk = F at *
  clear hF
  go_enter Tryz.func133, Tryz.ntmps133
  go_wp2_with fail
  generalize hw1 : w.alloc (.map #[] 0) = w1 at *
  clear hw1
  refine (hqF.out w1 hn1 l[0] (HV.out.2 _ (List.getElem_mem h0))).mono ?_
  rintro e w2 ⟨v1, rfl, hv1, hb1, hn2⟩
  have hb1' : ∀ b, v1 = .map (some b) → b ≠ w.heap.size := fun b e => by
    rcases hb1 b e with ⟨A, q, h1, rfl⟩ | h1
    · have := HS.out A q h1; omega
    · have := HSZ.out; omega
  have HB1 := Lib.hid hb1'
  have hnew2 := hnew.new hn2
  have hn12 := hn1.trans hn2
  clear hb1 hb1' hnew hn1 hn2 c1
  go_wp2_with fail
  refine (SAddSet_any hnew2 hv1 HB1.out (by omega)).mono ?_
  rintro e w3 ⟨rfl, hS3, hg3⟩
  have hv3 := hv1.kept hg3 (fun b e e2 => HB1.out b e (by injection e2))
  have hn3 : New w w3 := Below.grown hn12 hg3 hn12.size (fun k hk => by injection hk with hk; omega)
  have hbit := bitF_some (F l[0]) emptyS
  obtain ⟨ok, hok⟩ : ∃ ok, F l[0] emptyS = ok := ⟨_, rfl⟩
  rw [hok] at hbit
  have HOK := Lib.hid hok
  have e3 : (fun t => false || F l[0] t) = fun t => (l.take 1).any fun s => F s t := by
    funext t
    rw [any_take h0]; simp
  rw [e3] at hS3
  have HE := Lib.hid (And.intro hS3 hn3)
  clear hv1 hg3 hnew2 hn12 hmm e3 hok hS3 hn3
  go_wp2_with (first | (at_lookup; refine wpList_vlook_ok _ rfl _ _ 82 4 rfl Tryz.underlying9 Tryz.underlying82 (z4 _) v1 (n + 1) (bitF (F l[0])) rfl hv3 emptyS rfl (by decide) ?_; rw [hbit]))
  go_loopg [7, 8] l.length (fun gk u7 u8 wr => ∃ (k n' : Nat), 1 ≤ k ∧ k ≤ l.length ∧ l.length - k ≤ gk ∧ u7 = .bool (F (l.getD (k - 1) []) emptyS) ∧ u8 = .int .i64 k ∧ SetF wr w.heap.size n' (fun t => (l.take k).any fun s => F s t) ∧ n' ≤ k * (n + 1) ∧ (∀ i, i + 1 < k → F (l.getD i []) emptyS = true) ∧ New w wr)
  case atStart =>
    refine ⟨1, 0 + (n + 1), Nat.le_refl _, h0, by omega, ?_, rfl, HE.out.1, by omega, fun i hi => by omega, HE.out.2⟩
    have := HOK.out
    rw [← this]
    cases l with
    | nil => simp at h0
    | cons a r => rfl
  case round =>
    clear hv3 hbit
    obtain ⟨k, n', hk1, hk, hgk, rfl, rfl, hS, hn', hall, hnw⟩ := hrel
    have hend := seqF_end (F := F) hk1 hk hall
    have HEND := Lib.hid hend
    have HALL := Lib.hid hall
    have hnn : k * (n + 1) ≤ 1000 * (n + 1) := Nat.mul_le_mul_right _ (by omega)
    have hsz := hnw.size
    clear hend hall
    cases hok : F (l.getD (k - 1) []) emptyS with
    | false =>
      have HOK := Lib.hid hok
      clear hok
      by_cases hlt : k < l.length
      · go_wp2_with (at_delete; refine wpList_mdel _ rfl _ _ 82 4 rfl Tryz.underlying9 Tryz.underlying82 w.heap.size n' _ rfl hS emptyS rfl (by decide) ?_)
        intro w5 hS5 hg5
        rw [bitF_del, HEND.out.1 HOK.out] at hS5
        go_wp2
        go_ret
        exact ⟨w.heap.size, n', rfl, hS5, Nat.le_refl _, Below.grown hnw hg5 hsz (fun k hk => by injection hk with hk; omega), by omega⟩
      · go_wp2_with (at_delete; refine wpList_mdel _ rfl _ _ 82 4 rfl Tryz.underlying9 Tryz.underlying82 w.heap.size n' _ rfl hS emptyS rfl (by decide) ?_)
        intro w5 hS5 hg5
        rw [bitF_del, HEND.out.1 HOK.out] at hS5
        go_wp2
        go_ret
        exact ⟨w.heap.size, n', rfl, hS5, Nat.le_refl _, Below.grown hnw hg5 hsz (fun k hk => by injection hk with hk; omega), by omega⟩
    | true =>
      have HOK := Lib.hid hok
      clear hok
      by_cases hlt : k < l.length
      · obtain ⟨b2, o2, e2, c1⟩ := (HV.out.1.new hnw).elem hlt
        cases e2
        go_wp2_with fail
        refine (hqF.out wr hnw l[k] (HV.out.2 _ (List.getElem_mem hlt))).mono ?_
        rintro e w2 ⟨v2, rfl, hv2, hb2, hn2⟩
        have hSlt := hS.lt
        have hb2' : ∀ b, v2 = .map (some b) → b ≠ w.heap.size := fun b e => by
          rcases hb2 b e with ⟨A, q, h1, rfl⟩ | h1
          · have := HS.out A q h1; omega
          · omega
        have HB2 := Lib.hid hb2'
        have hS2 := hS.new hn2
        have hnw2 := hnw.trans hn2
        clear hb2 hb2' hS c1
        go_wp2_with fail
        refine (SAddSet_any hS2 hv2 HB2.out (by omega)).mono ?_
        rintro e w3 ⟨rfl, hS3, hg3⟩
        have hv3 := hv2.kept hg3 (fun b e e2 => HB2.out b e (by injection e2))
        have hn3 : New w w3 := Below.grown hnw2 hg3 hnw2.size (fun k hk => by injection hk with hk; omega)
        have hbit := bitF_some (F l[k]) emptyS
        have hgd : l.getD (k + 1 - 1) [] = l[k] := by simp [List.getD, hlt]
        have HG := Lib.hid hgd
        have e3 : (fun t => ((l.take k).any fun s => F s t) || F l[k] t) = fun t => (l.take (k + 1)).any fun s => F s t := by
          funext t
          rw [any_take hlt]
        rw [e3] at hS3
        have HE := Lib.hid (And.intro hS3 hn3)
        clear hv2 hg3 hnw2 hn2 e3 hS3 hn3 hgd hS2
        go_wp2_with (first | (at_lookup; refine wpList_vlook_ok _ rfl _ _ 82 4 rfl Tryz.underlying9 Tryz.underlying82 (z4 _) v2 (n + 1) (bitF (F l[k])) rfl hv3 emptyS rfl (by decide) ?_))
        go_roundg (l.length - (k + 1))
        case measure => omega
        case rel =>
          refine ⟨k + 1, n' + (n + 1), by omega, by omega, Nat.le_refl _, by rw [HG.out], by go_num, HE.out.1, ?_, ?_, HE.out.2⟩
          · rw [Nat.succ_mul]; omega
          · intro i hi
            by_cases e : i + 1 < k
            · exact HALL.out i e
            · have : i = k - 1 := by omega
              rw [this]; exact HOK.out
      · go_wp2
        go_ret
        rw [HEND.out.2 HOK.out (by omega)] at hS
        exact ⟨w.heap.size, n', rfl, hS, Nat.le_refl _, hnw, by omega⟩
end Go.Proofs.YtdejcdmgcckmoaaGreatDoor

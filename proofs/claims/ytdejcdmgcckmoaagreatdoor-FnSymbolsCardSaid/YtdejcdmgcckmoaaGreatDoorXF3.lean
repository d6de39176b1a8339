/- A part of the proofs about gocc: F3. -/
import Derived.Test.YtdejcdmgcckmoaaGreatDoorXF2
namespace Go.Proofs.YtdejcdmgcckmoaaGreatDoor
open Go.RowKit Lr

theorem z82 (w : World) : (zeroValue 82).run Tryz.prog w = .ok (.map none) w := by kernel_rfl

/-- The first sets while they are reckoned: at each head its set's block and what it holds. -/
structure FsSt (w : World) (B p M : Nat) (sym : Value) (sg : Str → Option (Nat × (Str → Bool))) (n : Nat) : Prop where
  blk : w.heap[p]? = some (.cells #[.map (some M), sym] 157 (0, 0))
  map : MapF Tryz.prog 9 w M n (fun A => (sg A).map fun q => .map (some q.1))
  set : ∀ A q, sg A = some q → SetF w q.1 n q.2
  setB : ∀ A q, sg A = some q → B ≤ q.1 ∧ q.1 ≠ M
  inj : ∀ A A' q q', sg A = some q → sg A' = some q' → q.1 = q'.1 → A = A'
  pB : B ≤ p
  mB : B ≤ M
def tau (sg : Str → Option (Nat × (Str → Bool))) (A s : Str) : Bool := match sg A with
  | none => false
  | some q => q.2 s
theorem FsSt.new {w w' : World} {B p M n : Nat} {sym : Value} {sg : Str → Option (Nat × (Str → Bool))} (h : FsSt w B p M sym sg n) (hn : New w w') : FsSt w' B p M sym sg n :=
  ⟨hn.heap h.blk, h.map.new hn, fun A q e => (h.set A q e).new hn, h.setB, h.inj, h.pB, h.mB⟩

set_option maxRecDepth 20000 in
set_option maxHeartbeats 1000000 in
theorem IsTerminal_any {w : World} {B p m1 m2 m3 : Nat} {r2 r4 r5 : Value} {tm nt nk : List Str} {n : Nat} (st : SymSt w B p m1 m2 m3 r2 r4 r5 tm nt nk n) (s : Str) (hs : s.length ≤ 1000000) :
    Calls Tryz.prog 100 #[.pointer (some ⟨p, 0, none⟩), sv s] w fun e w' => e = .returned (.bool (!has nk s)) ∧ w = w' := by
  have c0 := cell_of_blk st.blk 1
  simp only [List.getElem?_toArray, List.getElem?_cons_zero, List.getElem?_cons_succ] at c0
  obtain ⟨f, hf, hfk⟩ := st.ntm
  have hh := hfk s
  clear hfk
  generalize has nk s = bb at *
  go_enter Tryz.func100, Tryz.ntmps100
  go_wp2_with (at_lookup; refine wpList_look_ok _ rfl _ _ _ _ rfl Tryz.underlying9 Tryz.underlying91 (z3 _) m2 n f rfl hf s rfl (by omega) ?_; rw [hh])
  go_ret
  exact ⟨rfl, rfl⟩

set_option maxRecDepth 20000 in
set_option maxHeartbeats 1000000 in
theorem GetSet_any {w : World} {B p M n : Nat} {sym : Value} {sg : Str → Option (Nat × (Str → Bool))} (h : FsSt w B p M sym sg n) (A : Str) (hA : A.length ≤ 1000000) :
    Calls Tryz.prog 57 #[.pointer (some ⟨p, 0, none⟩), sv A] w fun e w' => ∃ v, e = .returned v ∧ SetV w v n (tau sg A) ∧ (∀ b, v = .map (some b) → ∃ q, sg A = some q ∧ b = q.1) ∧ w = w' := by
  have c0 := cell_of_blk h.blk 0
  simp only [List.getElem?_toArray, List.getElem?_cons_zero] at c0
  have hf := h.map
  have hset := h.set A
  unfold tau
  cases hs : sg A with
  | none =>
    have hs' : (fun A => (sg A).map fun q => Value.map (some q.1)) A = none := by simp [hs]
    clear hset
    generalize (fun A => (sg A).map fun q => Value.map (some q.1)) = f at *
    have h1 : (f A).isSome = false := by rw [hs']; rfl
    clear hs hs' h
    go_enter Tryz.func57, Tryz.ntmps57
    go_wp2_with (at_lookup; refine wpList_look_ok _ rfl _ _ _ _ rfl Tryz.underlying9 Tryz.underlying155 (z82 _) M n f rfl hf A rfl (by omega) ?_; rw [h1])
    go_ret
    exact ⟨.map none, rfl, .inl ⟨rfl, rfl⟩, (by intro b e; cases e), rfl⟩
  | some q =>
    have hs' : (fun A => (sg A).map fun q => Value.map (some q.1)) A = some (.map (some q.1)) := by simp [hs]
    have hS := hset q hs
    clear hset
    generalize (fun A => (sg A).map fun q => Value.map (some q.1)) = f at *
    have h1 : (f A).isSome = true := by rw [hs']; rfl
    have h2 : (f A).getD (.map none) = .map (some q.1) := by rw [hs']; rfl
    clear hs hs' h
    go_enter Tryz.func57, Tryz.ntmps57
    go_wp2_with (at_lookup; refine wpList_look_ok _ rfl _ _ _ _ rfl Tryz.underlying9 Tryz.underlying155 (z82 _) M n f rfl hf A rfl (by omega) ?_; rw [h1, h2])
    go_ret
    exact ⟨.map (some q.1), rfl, .inr ⟨q.1, rfl, hS⟩, fun b e => ⟨q, rfl, by cases e; rfl⟩, rfl⟩
end Go.Proofs.YtdejcdmgcckmoaaGreatDoor

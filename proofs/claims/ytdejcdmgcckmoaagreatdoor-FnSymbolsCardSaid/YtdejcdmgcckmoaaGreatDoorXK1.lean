/- A part of the proofs about gocc: K1. -/
import Derived.WalkKit
import Derived.WalkSpells
import Derived.WalkLawsBesides
import Derived.Lib.Hide
import Derived.Maps.OwnSet
import Derived.Maps.RangeWalk
import Derived.Maps.AppendAt
import Derived.Shelf.Abstract
import Derived.BigQuiet
import Derived.Deep.QuietTactic
import Derived.OneCell
import Derived.Test.YtdejcdmgcckmoaaGreatDoorXC2
namespace Go.Proofs.YtdejcdmgcckmoaaGreatDoor
open Go.RowKit

open Lr
abbrev sv (s : Str) : Value := .string ⟨s.toArray⟩

/-- `w'` is `w` with new blocks (and draws). -/
def New (w w' : World) : Prop := Below w.heap.size w w'

theorem New.refl (w : World) : New w w := Below.refl _ _
theorem New.trans {a b c : World} (h : New a b) (k : New b c) : New a c := Below.trans h (Below.mono k h.size)
theorem New.cell {w w' : World} (h : New w w') {a : Addr} {v : Value} (hc : w.cell? a = some v) : w'.cell? a = some v :=
  (Below.cell h (World.block_lt_of_cell? w a hc)).trans hc
theorem lt_of_cell {w : World} {b o : Nat} {v : Value} (h : w.cell? ⟨b, o, none⟩ = some v) : b < w.heap.size := World.block_lt_of_cell? w _ h
theorem New.of_below {w w' : World} (h : Below w.heap.size w w') : New w w' := h
theorem New.below {w w' : World} (h : New w w') : Below w.heap.size w w' := h
theorem New.alloc {w w' : World} (h : New w w') (o : Obj) : New w (w'.alloc o) := Below.alloc h h.size o

/-- The value is a slice of n elements, of m cells, the j-th of which is `f j`. -/
def SlcAt (w : World) (v : Value) (n m : Nat) (f : Nat → Value) : Prop :=
  ∃ a cap, v = .slice a n cap ∧ n ≤ cap ∧ (0 < m → ∃ b o, a = some ⟨b, o, none⟩ ∧ ∀ j, j < m → w.cell? ⟨b, o + j, none⟩ = some (f j))

theorem SlcAt.new {w w' : World} {v : Value} {n m : Nat} {f : Nat → Value} (h : SlcAt w v n m f) (hn : New w w') : SlcAt w' v n m f := by
  obtain ⟨a, cap, rfl, hcap, hc⟩ := h
  refine ⟨a, cap, rfl, hcap, fun hne => ?_⟩
  obtain ⟨b, o, rfl, hcc⟩ := hc hne
  exact ⟨b, o, rfl, fun j hj => hn.cell (hcc j hj)⟩

/-- A slice of strings. -/
def StrsAt (w : World) (v : Value) (l : List Str) : Prop := SlcAt w v l.length l.length fun j => sv (l.getD j [])
theorem StrsAt.new {w w' : World} {v : Value} {l : List Str} (h : StrsAt w v l) (hn : New w w') : StrsAt w' v l := SlcAt.new h hn

/-- A slice of productions. -/
def GramAt (w : World) (v : Value) (g : Gram) : Prop :=
  ∃ a cap, v = .slice a g.length cap ∧ g.length ≤ cap ∧ (0 < g.length → ∃ b o, a = some ⟨b, o, none⟩ ∧ ∀ j, j < g.length →
    w.cell? ⟨b, o + j * 2, none⟩ = some (sv (g.getD j default).1) ∧ ∃ vb, w.cell? ⟨b, o + j * 2 + 1, none⟩ = some vb ∧ StrsAt w vb (g.getD j default).2)
theorem GramAt.new {w w' : World} {v : Value} {g : Gram} (h : GramAt w v g) (hn : New w w') : GramAt w' v g := by
  obtain ⟨a, cap, rfl, hcap, hc⟩ := h
  refine ⟨a, cap, rfl, hcap, fun hne => ?_⟩
  obtain ⟨b, o, rfl, hcc⟩ := hc hne
  refine ⟨b, o, rfl, fun j hj => ?_⟩
  obtain ⟨h1, vb, h2, h3⟩ := hcc j hj
  exact ⟨hn.cell h1, vb, hn.cell h2, h3.new hn⟩

theorem New.grown {w w' : World} (h : New w w') (row : Option Nat) : w.grownBy w' row :=
  ⟨h.os, h.tape, h.output, h.size, fun k hk _ => h.block k hk⟩
theorem ownsRow_new {w w' : World} {base : Nat} {e : TypeId} {size : Nat} {v : Value} {n : Nat} {xs : List Value} (h : w.ownsRow base e size v n xs) (hn : New w w') : w'.ownsRow base e size v n xs :=
  h.kept (hn.grown none) (by cases hv : v.ownBlock <;> simp)
theorem Below.new {B : Nat} {a w w' : World} (h : Below B a w) (hn : New w w') (hB : B ≤ w.heap.size) : Below B a w' :=
  h.trans (Below.mono hn hB)

/-- A slice type of the program: its element's type, cells, bytes and zero value. -/
structure SliceTy (P : Program) (t e : TypeId) (size bytes : Nat) (z : Value) : Prop where
  und : P.underlying t = some (.slice e)
  row : (P.info? e).map (fun i => (i.zero, i.size, i.bytes)) = some (some z, size, bytes)
  cells : z.cells.size = size
  pos : 0 < size

/-- `append(s, x)` of one element onto a row of the call's own. -/
theorem wpList_push {P : Program} {ops : Array Oper} {rest : List Oper} {o : Oper} {a : Act} {Q : Exit → Act → World → Prop} (W : World) (hgd : o.guard = none) (s x : Operand) (t e : TypeId)
    (ho : o.op = .call { callee := .builtin .append, args := #[s, x], argTypes := #[t, t] }) {size bytes : Nat} {z : Value} (T : SliceTy P t e size bytes z)
    (B : Nat) (v : Value) (n : Nat) (xs : List Value) (hs : a.eval s = v) (hown : W.ownsRow B e size v n xs) (news : List Value) (hl : news.length = size) (h1 : news.all Value.oneCell' = true)
    (c hp : Nat) (hx : a.eval x = .slice (some ⟨hp, 0, none⟩) 1 c) (hhp : hp = W.heap.size) (hbytes : (n + 1) * bytes ≤ 140737488355328) (hlen : n + 1 ≤ 140737488355328) (hbase : B ≤ W.heap.size)
    (h : ∀ v' w', w'.ownsRow B e size v' (n + 1) (xs ++ news) → W.grownBy w' v.ownBlock → v' ≠ .slice none 0 0 → (v'.ownBlock = v.ownBlock ∨ ∃ b, v'.ownBlock = some b ∧ W.heap.size ≤ b) → wpList P ops Q rest (a.put o.dst v') w') :
    wpList P ops Q (o :: rest) a (W.alloc (.cells news.toArray e)) := by
  subst hhp
  obtain ⟨i, hi, hz0, hz1, hz2⟩ := info_parts T.row
  refine wpList_append_own_at _ hgd s x t ho B e i z size bytes T.und hi hz0 hz1 hz2 T.cells T.pos v n xs hs (hown.alloc _) ⟨W.heap.size, 0, none⟩ 1 c news hx (by omega) ?_ ?_ (by unfold maxLen; omega) hbytes (by simp; omega) ?_
  · intro j u hj
    have ea : (⟨W.heap.size, 0, none⟩ : Addr).add j = ⟨W.heap.size, j, none⟩ := by unfold Addr.add; split <;> simp_all
    rw [ea, cell_of_row (W.alloc (.cells news.toArray e)) W.heap.size j news.toArray e (0, 0) (heap_alloc_new W _)]
    simpa using hj
  · simpa [List.all_eq_true] using h1
  · intro v' w' h1 h2 h3 h4
    refine h v' w' h1 ((World.grownBy_alloc W _ _).trans h2) (fun e => by have := (h3.1 e).2; omega) ?_
    rcases h4 with h4 | h4
    · exact .inl h4
    · exact .inr ⟨_, h4, by simp⟩

/-- What a push leaves of old memory. -/
theorem Below.push {B : Nat} {w W w' : World} {e : TypeId} {size : Nat} {v : Value} {n : Nat} {xs : List Value} (h : Below B w W) (hown : W.ownsRow B e size v n xs) (hg : W.grownBy w' v.ownBlock) (hB : B ≤ W.heap.size) : Below B w w' :=
  h.grown hg hB fun k hk => (hown.lt k hk).1

theorem ret_int {k : IntKind} {a b : Int} (h : a = b) : Ending.returned (.int k a) = .returned (.int k b) := by rw [h]
theorem ret_bool {a b : Bool} (h : a = b) : Ending.returned (.bool a) = .returned (.bool b) := by rw [h]

/-- The call returns a value of which P holds; old memory stays. -/
def Gives (w : World) (P : Value → World → Prop) (e : Ending) (w' : World) : Prop := ∃ v, e = .returned v ∧ P v w' ∧ New w w'

end Go.Proofs.YtdejcdmgcckmoaaGreatDoor

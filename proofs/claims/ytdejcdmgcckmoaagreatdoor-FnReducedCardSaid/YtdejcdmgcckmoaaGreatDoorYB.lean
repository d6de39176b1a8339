/- Words about memory: strings, slices, maps keyed by strings, ranges over them. -/
import Derived.WalkKit
import Derived.WalkSpells
import Derived.WalkLawsBesides
import Derived.Lib.Hide
import Derived.Maps.OwnSet
import Derived.Maps.RangeWalk
import Derived.Maps.AppendAt
import Derived.Shelf.Abstract
import Derived.BigQuiet
import Derived.Deep.QuietTactic
import Derived.OneCell
import Derived.Test.YtdejcdmgcckmoaaGreatDoorYA
import Derived.StillTailTactics
import Derived.Deep.RegionLaw
import Derived.Sort.MapsRangeIn
import Derived.Laws.IdiomRangeMap
namespace Go.Proofs.YtdejcdmgcckmoaaGreatDoor
open Go.RowKit

open Lr
abbrev sv (s : Str) : Value := .string ⟨s.toArray⟩

/-- `w'` is `w` with new blocks (and draws). -/
def New (w w' : World) : Prop := Below w.heap.size w w'

theorem New.refl (w : World) : New w w := Below.refl _ _
theorem New.trans {a b c : World} (h : New a b) (k : New b c) : New a c := Below.trans h (Below.mono k h.size)
theorem New.cell {w w' : World} (h : New w w') {a : Addr} {v : Value} (hc : w.cell? a = some v) : w'.cell? a = some v :=
  (Below.cell h (World.block_lt_of_cell? w a hc)).trans hc
theorem lt_of_cell {w : World} {b o : Nat} {v : Value} (h : w.cell? ⟨b, o, none⟩ = some v) : b < w.heap.size := World.block_lt_of_cell? w _ h
theorem New.of_below {w w' : World} (h : Below w.heap.size w w') : New w w' := h
theorem New.below {w w' : World} (h : New w w') : Below w.heap.size w w' := h
theorem New.alloc {w w' : World} (h : New w w') (o : Obj) : New w (w'.alloc o) := Below.alloc h h.size o

/-- The value is a slice of n elements, of m cells, the j-th of which is `f j`. -/
def SlcAt (w : World) (v : Value) (n m : Nat) (f : Nat → Value) : Prop :=
  ∃ a cap, v = .slice a n cap ∧ n ≤ cap ∧ (0 < m → ∃ b o, a = some ⟨b, o, none⟩ ∧ ∀ j, j < m → w.cell? ⟨b, o + j, none⟩ = some (f j))

theorem SlcAt.new {w w' : World} {v : Value} {n m : Nat} {f : Nat → Value} (h : SlcAt w v n m f) (hn : New w w') : SlcAt w' v n m f := by
  obtain ⟨a, cap, rfl, hcap, hc⟩ := h
  refine ⟨a, cap, rfl, hcap, fun hne => ?_⟩
  obtain ⟨b, o, rfl, hcc⟩ := hc hne
  exact ⟨b, o, rfl, fun j hj => hn.cell (hcc j hj)⟩

/-- A slice of strings. -/
def StrsAt (w : World) (v : Value) (l : List Str) : Prop := SlcAt w v l.length l.length fun j => sv (l.getD j [])
theorem StrsAt.new {w w' : World} {v : Value} {l : List Str} (h : StrsAt w v l) (hn : New w w') : StrsAt w' v l := SlcAt.new h hn

/-- A slice of productions. -/
def GramAt (w : World) (v : Value) (g : Gram) : Prop :=
  ∃ a cap, v = .slice a g.length cap ∧ g.length ≤ cap ∧ (0 < g.length → ∃ b o, a = some ⟨b, o, none⟩ ∧ ∀ j, j < g.length →
    w.cell? ⟨b, o + j * 2, none⟩ = some (sv (g.getD j default).1) ∧ ∃ vb, w.cell? ⟨b, o + j * 2 + 1, none⟩ = some vb ∧ StrsAt w vb (g.getD j default).2)
theorem GramAt.new {w w' : World} {v : Value} {g : Gram} (h : GramAt w v g) (hn : New w w') : GramAt w' v g := by
  obtain ⟨a, cap, rfl, hcap, hc⟩ := h
  refine ⟨a, cap, rfl, hcap, fun hne => ?_⟩
  obtain ⟨b, o, rfl, hcc⟩ := hc hne
  refine ⟨b, o, rfl, fun j hj => ?_⟩
  obtain ⟨h1, vb, h2, h3⟩ := hcc j hj
  exact ⟨hn.cell h1, vb, hn.cell h2, h3.new hn⟩

theorem New.grown {w w' : World} (h : New w w') (row : Option Nat) : w.grownBy w' row :=
  ⟨h.os, h.tape, h.output, h.size, fun k hk _ => h.block k hk⟩
theorem ownsRow_new {w w' : World} {base : Nat} {e : TypeId} {size : Nat} {v : Value} {n : Nat} {xs : List Value} (h : w.ownsRow base e size v n xs) (hn : New w w') : w'.ownsRow base e size v n xs :=
  h.kept (hn.grown none) (by cases hv : v.ownBlock <;> simp)
theorem Below.new {B : Nat} {a w w' : World} (h : Below B a w) (hn : New w w') (hB : B ≤ w.heap.size) : Below B a w' :=
  h.trans (Below.mono hn hB)

/-- A slice type of the program: its element's type, cells, bytes and zero value. -/
structure SliceTy (P : Program) (t e : TypeId) (size bytes : Nat) (z : Value) : Prop where
  und : P.underlying t = some (.slice e)
  row : (P.info? e).map (fun i => (i.zero, i.size, i.bytes)) = some (some z, size, bytes)
  cells : z.cells.size = size
  pos : 0 < size

/-- `append(s, x)` of one element onto a row of the call's own. -/
theorem wpList_push {P : Program} {ops : Array Oper} {rest : List Oper} {o : Oper} {a : Act} {Q : Exit → Act → World → Prop} (W : World) (hgd : o.guard = none) (s x : Operand) (t e : TypeId)
    (ho : o.op = .call { callee := .builtin .append, args := #[s, x], argTypes := #[t, t] }) {size bytes : Nat} {z : Value} (T : SliceTy P t e size bytes z)
    (B : Nat) (v : Value) (n : Nat) (xs : List Value) (hs : a.eval s = v) (hown : W.ownsRow B e size v n xs) (news : List Value) (hl : news.length = size) (h1 : news.all Value.oneCell' = true)
    (c hp : Nat) (hx : a.eval x = .slice (some ⟨hp, 0, none⟩) 1 c) (hhp : hp = W.heap.size) (hbytes : (n + 1) * bytes ≤ 140737488355328) (hlen : n + 1 ≤ 140737488355328) (hbase : B ≤ W.heap.size)
    (h : ∀ v' w', w'.ownsRow B e size v' (n + 1) (xs ++ news) → W.grownBy w' v.ownBlock → v' ≠ .slice none 0 0 → (v'.ownBlock = v.ownBlock ∨ ∃ b, v'.ownBlock = some b ∧ W.heap.size ≤ b) → wpList P ops Q rest (a.put o.dst v') w') :
    wpList P ops Q (o :: rest) a (W.alloc (.cells news.toArray e)) := by
  subst hhp
  obtain ⟨i, hi, hz0, hz1, hz2⟩ := info_parts T.row
  refine wpList_append_own_at _ hgd s x t ho B e i z size bytes T.und hi hz0 hz1 hz2 T.cells T.pos v n xs hs (hown.alloc _) ⟨W.heap.size, 0, none⟩ 1 c news hx (by omega) ?_ ?_ (by unfold maxLen; omega) hbytes (by simp; omega) ?_
  · intro j u hj
    have ea : (⟨W.heap.size, 0, none⟩ : Addr).add j = ⟨W.heap.size, j, none⟩ := by unfold Addr.add; split <;> simp_all
    rw [ea, cell_of_row (W.alloc (.cells news.toArray e)) W.heap.size j news.toArray e (0, 0) (heap_alloc_new W _)]
    simpa using hj
  · simpa [List.all_eq_true] using h1
  · intro v' w' h1 h2 h3 h4
    refine h v' w' h1 ((World.grownBy_alloc W _ _).trans h2) (fun e => by have := (h3.1 e).2; omega) ?_
    rcases h4 with h4 | h4
    · exact .inl h4
    · exact .inr ⟨_, h4, by simp⟩

/-- What a push leaves of old memory. -/
theorem Below.push {B : Nat} {w W w' : World} {e : TypeId} {size : Nat} {v : Value} {n : Nat} {xs : List Value} (h : Below B w W) (hown : W.ownsRow B e size v n xs) (hg : W.grownBy w' v.ownBlock) (hB : B ≤ W.heap.size) : Below B w w' :=
  h.grown hg hB fun k hk => (hown.lt k hk).1

theorem ret_int {k : IntKind} {a b : Int} (h : a = b) : Ending.returned (.int k a) = .returned (.int k b) := by rw [h]
theorem ret_bool {a b : Bool} (h : a = b) : Ending.returned (.bool a) = .returned (.bool b) := by rw [h]

/-- The call returns a value of which P holds; old memory stays. -/
def Gives (w : World) (P : Value → World → Prop) (e : Ending) (w' : World) : Prop := ∃ v, e = .returned v ∧ P v w' ∧ New w w'

end Go.Proofs.YtdejcdmgcckmoaaGreatDoor
namespace Go.Proofs.YtdejcdmgcckmoaaGreatDoor
open Go.RowKit Lr

theorem ownBlock_ne {w : World} {base : Nat} {e t : TypeId} {size : Nat} {v : Value} {n : Nat} {xs : List Value} {b : Nat} {c : Array Value} {f : Nat × Nat} (h : w.ownsRow base e size v n xs) (hb : w.heap[b]? = some (.cells c t f)) (hne : e ≠ t) : v.ownBlock ≠ some b := by
  intro e'
  rcases h.2 with ⟨rfl, _⟩ | ⟨g, cap, cur, rfl, _, hg, _⟩
  · cases e'
  · simp [Value.ownBlock] at e'
    subst e'
    rw [hg] at hb
    cases hb
    exact hne rfl
theorem New.heap {w w' : World} (h : New w w') {b : Nat} {o : Obj} (hb : w.heap[b]? = some o) : w'.heap[b]? = some o :=
  (h.block b (lt_of_block hb)).trans hb
theorem New.setCell {w w' : World} (h : New w w') {a : Addr} (ha : w.heap.size ≤ a.block) (u : Value) : New w (w'.setCell a u) := Below.setCell h ha u


/-- Every element reads as itself. -/
def heldR (v : Value) : Option (DataW Value × List MemPlace) := some (.held v, [])

/-- Block b is a map, keyed by strings, of at most n entries; what it holds at a key. -/
def MapF (P : Program) (kt : TypeId) (w : World) (b n : Nat) (f : Str → Option Value) : Prop :=
  ∃ D, w.ownsMap P kt heldR b n D ∧ ∀ s : Str, (f s = none ∧ Maps.has D (.string s) = false) ∨ (∃ v, f s = some v ∧ Maps.has D (.string s) = true ∧ ∀ z, D.atKey (.string s) z = .held v)

section
variable {P : Program} {kt t e : TypeId} {w : World} {b n : Nat} {f : Str → Option Value}
theorem MapF.made (w : World) : MapF P kt (w.alloc (.map #[] 0)) w.heap.size 0 (fun _ => none) :=
  ⟨_, World.ownsMap_made _ _ _ _, fun _ => .inl ⟨rfl, rfl⟩⟩
theorem MapF.kept {w' : World} {row : Option Nat} (h : MapF P kt w b n f) (hg : w.grownBy w' row) (hne : some b ≠ row) : MapF P kt w' b n f := by
  obtain ⟨D, h1, h2⟩ := h
  exact ⟨D, h1.kept hg hne, h2⟩
theorem MapF.new {w' : World} (h : MapF P kt w b n f) (hn : New w w') : MapF P kt w' b n f := h.kept (hn.grown none) (by simp)
theorem MapF.lt (h : MapF P kt w b n f) : b < w.heap.size := by obtain ⟨D, h1, _⟩ := h; exact h1.lt
theorem MapF.block (h : MapF P kt w b n f) : ∃ es c, w.heap[b]? = some (.map es c) := by
  obtain ⟨D, ⟨es, c, h1, _⟩, _⟩ := h
  exact ⟨es, c, h1⟩
theorem MapF.mono (h : MapF P kt w b n f) {m : Nat} (hm : n ≤ m) : MapF P kt w b m f := by
  obtain ⟨D, h1, h2⟩ := h
  exact ⟨D, h1.mono hm, h2⟩
theorem MapF.setCell (h : MapF P kt w b n f) {a : Addr} {v u : Value} (hc : w.cell? a = some v) : MapF P kt (w.setCell a u) b n f := by
  obtain ⟨es, c, hb⟩ := h.block
  obtain ⟨D, h1, h2⟩ := h
  refine ⟨D, h1.setCell (fun e => ?_) u, h2⟩
  subst e
  simp [World.cell?, hb] at hc

theorem isKey_string (s : Str) : WideAt.IsKeyLit (.string s) := by simp [WideAt.IsKeyLit]
theorem key_sv (hk : P.underlying kt = some .string) {s : Str} (hs : s.length ≤ 9223372036854775807) : keyOf P kt (sv s) = some (.string s) := by
  have := WideMaps.keyOf_string_mk (P := P) (k := kt) hk (s := ⟨s.toArray⟩) (by unfold maxLen; exact hs)
  simpa using this

/-- `v, ok := m[k]` -/
theorem MapF.look_ok (h : MapF P kt w b n f) (hk : P.underlying kt = some .string) (ht : P.underlying t = some (.map kt e)) {z : Value} (hz : (zeroValue e).run P w = .ok z w) {s : Str} (hs : s.length ≤ 9223372036854775807) :
    (Instr.lookup t (.map (some b)) (sv s) true).run P w = .ok (.tuple #[(f s).getD z, .bool (f s).isSome]) w := by
  obtain ⟨D, h1, h2⟩ := h
  obtain ⟨v, ps, hrun, hv⟩ := h1.look_ok (Maps.string_keyed hk) ht hz (zd := .held z) (zp := []) rfl (key_sv hk hs)
  rw [hrun]
  simp only [heldR, Option.some.injEq, Prod.mk.injEq] at hv
  rcases h2 s with ⟨e1, e2⟩ | ⟨u, e1, e2, e3⟩
  · rw [Maps.atKey_of_not_has e2] at hv
    have := hv.1
    simp at this
    rw [e1, e2, this]; rfl
  · rw [e3] at hv
    have := hv.1
    simp at this
    rw [e1, e2, this]; rfl
/-- `m[k]` -/
theorem MapF.look (h : MapF P kt w b n f) (hk : P.underlying kt = some .string) (ht : P.underlying t = some (.map kt e)) {z : Value} (hz : (zeroValue e).run P w = .ok z w) {s : Str} (hs : s.length ≤ 9223372036854775807) :
    (Instr.lookup t (.map (some b)) (sv s) false).run P w = .ok ((f s).getD z) w := by
  obtain ⟨D, h1, h2⟩ := h
  obtain ⟨v, ps, hrun, hv⟩ := h1.lookup (Maps.string_keyed hk) ht hz (zd := .held z) (zp := []) rfl (key_sv hk hs)
  rw [hrun]
  simp only [heldR, Option.some.injEq, Prod.mk.injEq] at hv
  rcases h2 s with ⟨e1, e2⟩ | ⟨u, e1, e2, e3⟩
  · rw [Maps.atKey_of_not_has e2] at hv
    have := hv.1
    simp at this
    rw [e1, this]; rfl
  · rw [e3] at hv
    have := hv.1
    simp at this
    rw [e1, this]; rfl

def putF (f : Str → Option Value) (s : Str) (v : Value) : Str → Option Value := fun t => if t = s then some v else f t

theorem MapF.store (h : MapF P kt w b n f) (hk : P.underlying kt = some .string) (ht : P.underlying t = some (.map kt e)) (hn : n < 9223372036854775807) {s : Str} (hs : s.length ≤ 9223372036854775807) (v : Value) :
    ∃ w', (Instr.mapUpdate t (.map (some b)) (sv s) v).run P w = .ok () w' ∧ MapF P kt w' b (n + 1) (putF f s v) ∧ w.grownBy w' (some b) := by
  obtain ⟨D, h1, h2⟩ := h
  obtain ⟨w', r1, r2, r3⟩ := h1.update (Maps.string_keyed hk) ht (by unfold maxLen; omega) (key_sv hk hs) (val := v) (d := .held v) (ps := []) rfl
  refine ⟨w', r1, ⟨_, r2, fun u => ?_⟩, r3⟩
  by_cases hu : u = s
  · subst hu
    right
    exact ⟨v, by simp [putF], Maps.has_put_same h1.isMap (isKey_string u) _, fun z => Maps.atKey_put_same h1.isMap (isKey_string u) _ _⟩
  · have hne : (Lit.string u) ≠ Lit.string s := fun e => hu (by injection e)
    rw [Maps.has_put_other hne]
    rcases h2 u with ⟨e1, e2⟩ | ⟨x, e1, e2, e3⟩
    · exact .inl ⟨by simp [putF, hu, e1], e2⟩
    · exact .inr ⟨x, by simp [putF, hu, e1], e2, fun z => by rw [Maps.atKey_put_other hne]; exact e3 z⟩
end

section
variable {P : Program} (w : World) {ops : Array Oper} {rest : List Oper} {o : Oper} {a : Act} {Q : Exit → Act → World → Prop} {kt : TypeId}
theorem wpList_look_ok (hg : o.guard = none) (m x : Operand) (t e : TypeId) (hop : o.op = Op.lookup t m x true) (hk : P.underlying kt = some .string) (ht : P.underlying t = some (.map kt e)) {z : Value} (hz : (zeroValue e).run P w = .ok z w)
    (b n : Nat) (f : Str → Option Value) (hm : a.eval m = .map (some b)) (h : MapF P kt w b n f) (s : Str) (hx : a.eval x = sv s) (hs : s.length ≤ 9223372036854775807)
    (hK : wpList P ops Q rest (a.put o.dst (.tuple #[(f s).getD z, .bool (f s).isSome])) w) : wpList P ops Q (o :: rest) a w := by
  refine wpList_plain hg fun K' hK' => ?_
  have hrun := h.look_ok hk ht hz hs
  unfold Oper.wp
  simp [execOp, hop, hm, hx, hrun, Result.andThen]
  exact hK' _ _ hK
theorem wpList_look (hg : o.guard = none) (m x : Operand) (t e : TypeId) (hop : o.op = Op.lookup t m x false) (hk : P.underlying kt = some .string) (ht : P.underlying t = some (.map kt e)) {z : Value} (hz : (zeroValue e).run P w = .ok z w)
    (b n : Nat) (f : Str → Option Value) (hm : a.eval m = .map (some b)) (h : MapF P kt w b n f) (s : Str) (hx : a.eval x = sv s) (hs : s.length ≤ 9223372036854775807)
    (hK : wpList P ops Q rest (a.put o.dst ((f s).getD z)) w) : wpList P ops Q (o :: rest) a w := by
  refine wpList_plain hg fun K' hK' => ?_
  have hrun := h.look hk ht hz hs
  unfold Oper.wp
  simp [execOp, hop, hm, hx, hrun, Result.andThen]
  exact hK' _ _ hK
theorem wpList_mstore (hg : o.guard = none) (m x v : Operand) (t e : TypeId) (hop : o.op = Op.mapUpdate t m x v) (hk : P.underlying kt = some .string) (ht : P.underlying t = some (.map kt e))
    (b n : Nat) (f : Str → Option Value) (hm : a.eval m = .map (some b)) (h : MapF P kt w b n f) (hn : n < 9223372036854775807) (s : Str) (hx : a.eval x = sv s) (hs : s.length ≤ 9223372036854775807) (val : Value) (hv : a.eval v = val)
    (hK : ∀ w', MapF P kt w' b (n + 1) (putF f s val) → w.grownBy w' (some b) → wpList P ops Q rest (a.put o.dst undef) w') : wpList P ops Q (o :: rest) a w := by
  refine wpList_plain hg fun K' hK' => ?_
  obtain ⟨w', hrun, r1, r2⟩ := h.store hk ht hn hs val
  unfold Oper.wp
  simp [execOp, hop, hm, hx, hv, hrun, Result.andThen]
  exact hK' _ _ (hK w' r1 r2)
end
theorem cell_of_blk {w : World} {p : Nat} {c : Array Value} {t : TypeId} {f : Nat × Nat} (h : w.heap[p]? = some (.cells c t f)) (o : Nat) : w.cell? ⟨p, o, none⟩ = c[o]? := by simp [World.cell?, h]
theorem free_of_blk {w : World} {p : Nat} {c : Array Value} {t : TypeId} (h : w.heap[p]? = some (.cells c t (0, 0))) (o : Nat) : w.frozen? ⟨p, o, none⟩ = false := by simp [World.frozen?, h]
theorem set_of_blk {w : World} {p : Nat} {c : Array Value} {t : TypeId} {f : Nat × Nat} (h : w.heap[p]? = some (.cells c t f)) (o : Nat) (u : Value) : (w.setCell ⟨p, o, none⟩ u).heap[p]? = some (.cells (c.setIfInBounds o u) t f) := by
  simp [World.setCell, Array.getElem?_modify, h]
theorem ownBlock_ne_map {w : World} {base : Nat} {e : TypeId} {size : Nat} {v : Value} {n : Nat} {xs : List Value} {P : Program} {kt : TypeId} {b m : Nat} {f : Str → Option Value} (h : w.ownsRow base e size v n xs) (hb : MapF P kt w b m f) : v.ownBlock ≠ some b := by
  intro e'
  obtain ⟨es, c, hm⟩ := hb.block
  rcases h.2 with ⟨rfl, _⟩ | ⟨g, cap, cur, rfl, _, hg, _⟩
  · cases e'
  · simp [Value.ownBlock] at e'
    subst e'
    rw [hg] at hm
    cases hm
end Go.Proofs.YtdejcdmgcckmoaaGreatDoor
namespace Go.Proofs.YtdejcdmgcckmoaaGreatDoor
open Go.RowKit Lr

/-- D holds at each string what f says. -/
def ReadsF (D : DataW Value) (f : Str → Option Value) : Prop :=
  ∀ s : Str, (f s = none ∧ Maps.has D (.string s) = false) ∨ (∃ v, f s = some v ∧ Maps.has D (.string s) = true ∧ ∀ z, D.atKey (.string s) z = .held v)

/-- A range over a map keyed by strings, under way; L says which keys are still to come. -/
def RangeF (P : Program) (kt : TypeId) (w : World) (b r n : Nat) (f : Str → Option Value) (L : Str → Bool) (cnt : Nat) : Prop :=
  ∃ D lf, w.ranges P kt heldR b r n D lf cnt ∧ ReadsF D f ∧ (∀ s, lf (.string s) = L s) ∧ cnt ≤ n ∧ ∀ s, L s = true → (f s).isSome = true

/-- The same, of a map that may be nil. -/
def MapV (P : Program) (kt : TypeId) (w : World) (v : Value) (n : Nat) (f : Str → Option Value) : Prop :=
  (v = .map none ∧ f = fun _ => none) ∨ ∃ b, v = .map (some b) ∧ MapF P kt w b n f
def RangeV (P : Program) (kt : TypeId) (w : World) (v : Value) (r n : Nat) (f : Str → Option Value) (L : Str → Bool) (cnt : Nat) : Prop :=
  (v = .map none ∧ w.heap[r]? = some (.mapIter none 0 #[] 0) ∧ (∀ s, L s = false) ∧ cnt = 0) ∨ ∃ b, v = .map (some b) ∧ RangeF P kt w b r n f L cnt

section
variable {P : Program} {kt t e : TypeId} {w : World} {b r n cnt : Nat} {f : Str → Option Value} {L : Str → Bool} {v : Value}
theorem RangeF.kept {w' : World} {row : Option Nat} (h : RangeF P kt w b r n f L cnt) (hg : w.grownBy w' row) (hb : some b ≠ row) (hr : some r ≠ row) : RangeF P kt w' b r n f L cnt := by
  obtain ⟨D, lf, h1, h2⟩ := h
  exact ⟨D, lf, h1.kept hg hb hr, h2⟩
theorem RangeF.map (h : RangeF P kt w b r n f L cnt) : MapF P kt w b n f := by
  obtain ⟨D, lf, h1, h2, _⟩ := h
  exact ⟨D, h1.owns, h2⟩
theorem RangeF.lt (h : RangeF P kt w b r n f L cnt) : r < w.heap.size := by obtain ⟨D, lf, h1, _⟩ := h; exact h1.lt
theorem RangeV.lt (h : RangeV P kt w v r n f L cnt) : r < w.heap.size := by
  rcases h with ⟨_, h, _⟩ | ⟨b, _, h⟩
  · exact lt_of_block h
  · exact h.lt
theorem MapV.new {w' : World} (h : MapV P kt w v n f) (hn : New w w') : MapV P kt w' v n f := h.imp id fun ⟨b, e, h⟩ => ⟨b, e, h.new hn⟩
theorem MapV.kept {w' : World} {row : Option Nat} (h : MapV P kt w v n f) (hg : w.grownBy w' row) (hne : ∀ b, v = .map (some b) → some b ≠ row) : MapV P kt w' v n f := h.imp id fun ⟨b, e, h⟩ => ⟨b, e, h.kept hg (hne b e)⟩
theorem MapV.mono (h : MapV P kt w v n f) {m : Nat} (hm : n ≤ m) : MapV P kt w v m f := h.imp id fun ⟨b, e, h⟩ => ⟨b, e, h.mono hm⟩
theorem RangeV.cnt_le (h : RangeV P kt w v r n f L cnt) : cnt ≤ n := by
  rcases h with ⟨_, _, _, rfl⟩ | ⟨b, _, D, lf, _, _, _, h, _⟩
  · exact Nat.zero_le _
  · exact h

theorem MapF.del (h : MapF P kt w b n f) (hk : P.underlying kt = some .string) (ht : P.underlying t = some (.map kt e)) {s : Str} (hs : s.length ≤ 9223372036854775807) (ty : TypeId) :
    ∃ w', (Builtin.delete_ #[t, kt] ty #[.map (some b), sv s]).run P w = .ok (.tuple #[]) w' ∧ MapF P kt w' b n (fun u => if u = s then none else f u) ∧ w.grownBy w' (some b) := by
  obtain ⟨D, h1, h2⟩ := h
  obtain ⟨w', r1, r2, r3⟩ := h1.drop (Maps.string_keyed hk) ht (key_sv hk hs) ty
  refine ⟨w', r1, ⟨_, r2, fun u => ?_⟩, r3.grown⟩
  by_cases hu : u = s
  · subst hu
    exact .inl ⟨by simp, Maps.has_del_same⟩
  · have hne : (Lit.string u) ≠ Lit.string s := fun e => hu (by injection e)
    rw [Maps.has_del_other hne]
    rcases h2 u with ⟨e1, e2⟩ | ⟨x, e1, e2, e3⟩
    · exact .inl ⟨by simp [hu, e1], e2⟩
    · exact .inr ⟨x, by simp [hu, e1], e2, fun z => by rw [Maps.atKey_del_other hne]; exact e3 z⟩
end

section
variable {P : Program} (w : World) {ops : Array Oper} {rest : List Oper} {o : Oper} {a : Act} {Q : Exit → Act → World → Prop} {kt : TypeId}

theorem wpList_mdel (hg : o.guard = none) (m x : Operand) (t e : TypeId) (hop : o.op = Op.call { callee := Callee.builtin Builtin.delete, args := #[m, x], argTypes := #[t, kt] }) (hk : P.underlying kt = some .string) (ht : P.underlying t = some (.map kt e))
    (b n : Nat) (f : Str → Option Value) (hm : a.eval m = .map (some b)) (h : MapF P kt w b n f) (s : Str) (hx : a.eval x = sv s) (hs : s.length ≤ 9223372036854775807)
    (hK : ∀ w', MapF P kt w' b n (fun u => if u = s then none else f u) → w.grownBy w' (some b) → wpList P ops Q rest (a.put o.dst (.tuple #[])) w') : wpList P ops Q (o :: rest) a w := by
  refine wpList_plain hg fun K' hK' => ?_
  obtain ⟨w', hrun, r1, r2⟩ := h.del hk ht hs o.type
  unfold Oper.wp
  simp [execOp, hop, resolve, invoke, builtin, hm, hx, hrun, Result.andThen]
  exact hK' _ _ (hK w' r1 r2)

theorem wpList_minsert (hg : o.guard = none) (m x v : Operand) (t e : TypeId) (hop : o.op = Op.insert t m x v) (hk : P.underlying kt = some .string) (ht : P.underlying t = some (.map kt e))
    (b n : Nat) (f : Str → Option Value) (hm : a.eval m = .map (some b)) (h : MapF P kt w b n f) (hn : n < 9223372036854775807) (s : Str) (hx : a.eval x = sv s) (hs : s.length ≤ 9223372036854775807) (val : Value) (hv : a.eval v = val)
    (hK : ∀ w', MapF P kt w' b (n + 1) (putF f s val) → w.grownBy w' (some b) → wpList P ops Q rest (a.put o.dst undef) w') : wpList P ops Q (o :: rest) a w := by
  refine wpList_plain hg fun K' hK' => ?_
  obtain ⟨w', hrun, r1, r2⟩ := h.store hk ht hn hs val
  unfold Oper.wp
  simp [execOp, hop, hm, hx, hv, hrun, Result.andThen]
  exact hK' _ _ (hK w' r1 r2)

/-- `len(m)` -/
theorem wpList_mlen (hg : o.guard = none) (m : Operand) (t e : TypeId) (hop : o.op = Op.call { callee := Callee.builtin Builtin.len, args := #[m], argTypes := #[t] }) (ht : P.underlying t = some (.map kt e)) (v : Value)
    (n : Nat) (f : Str → Option Value) (hm : a.eval m = v) (h : MapV P kt w v n f)
    (hK : ∀ k : Nat, k ≤ n → wpList P ops Q rest (a.put o.dst (.int .i64 k)) w) : wpList P ops Q (o :: rest) a w := by
  refine wpList_plain hg fun K' hK' => ?_
  rcases h with ⟨rfl, rfl⟩ | ⟨b, rfl, D, h, _⟩
  · unfold Oper.wp
    simp [execOp, hop, resolve, invoke, builtin, hm, Maps.len_nil ht o.type, Result.andThen]
    exact hK' _ _ (hK 0 (Nat.zero_le _))
  · unfold Oper.wp
    simp [execOp, hop, resolve, invoke, builtin, hm, h.len ht o.type, Result.andThen]
    exact hK' _ _ (hK _ h.size_le)

/-- `v, ok := m[k]` of a map that may be nil. -/
theorem wpList_vlook_ok (hg : o.guard = none) (m x : Operand) (t e : TypeId) (hop : o.op = Op.lookup t m x true) (hk : P.underlying kt = some .string) (ht : P.underlying t = some (.map kt e)) {z : Value} (hz : (zeroValue e).run P w = .ok z w)
    (v : Value) (n : Nat) (f : Str → Option Value) (hm : a.eval m = v) (h : MapV P kt w v n f) (s : Str) (hx : a.eval x = sv s) (hs : s.length ≤ 9223372036854775807)
    (hK : wpList P ops Q rest (a.put o.dst (.tuple #[(f s).getD z, .bool (f s).isSome])) w) : wpList P ops Q (o :: rest) a w := by
  rcases h with ⟨rfl, rfl⟩ | ⟨b, rfl, h⟩
  · refine wpList_plain hg fun K' hK' => ?_
    have hrun := Maps.look_nil (P := P) (w := w) true (Maps.string_keyed hk) ht hz (key_sv hk hs)
    unfold Oper.wp
    simp [execOp, hop, hm, hx, hrun, Result.andThen]
    exact hK' _ _ (by simpa using hK)
  · exact wpList_look_ok w hg m x t e hop hk ht hz b n f hm h s hx hs hK

/-- `range m` of a map that may be nil. -/
theorem wpList_vrange (hg : o.guard = none) (m : Operand) (t e : TypeId) (hop : o.op = Op.range t m) (hk : P.underlying kt = some .string) (ht : P.underlying t = some (.map kt e)) (v : Value) (n : Nat) (f : Str → Option Value)
    (hm : a.eval m = v) (h : MapV P kt w v n f)
    (hK : ∀ w' cnt, RangeV P kt w' v w.heap.size n f (fun s => (f s).isSome) cnt → w.grownBy w' none → wpList P ops Q rest (a.put o.dst (.pointer (some ⟨w.heap.size, 0, none⟩))) w') : wpList P ops Q (o :: rest) a w := by
  rcases h with ⟨rfl, rfl⟩ | ⟨b, rfl, D, h, h2⟩
  · refine wpList_plain hg fun K' hK' => ?_
    unfold Oper.wp
    simp [execOp, hop, hm, run_range_nilMap w t kt e ht, Result.andThen]
    exact hK' _ _ (hK _ 0 (.inl ⟨rfl, heap_alloc_new w _, fun _ => rfl, rfl⟩) (World.grownBy_alloc w _ none))
  · refine wpList_range_own w hg m t hop kt e (Maps.string_keyed hk) ht heldR b n D hm h ?_
    intro w' r1 r2 r3
    refine hK w' _ (.inr ⟨b, rfl, D, _, r1, h2, fun s => ?_, h.size_le, fun _ h => h⟩) r2
    show Maps.has D (.string s) = (f s).isSome
    rcases h2 s with ⟨e1, e2⟩ | ⟨x, e1, e2, _⟩
    · rw [e1, e2]; rfl
    · rw [e1, e2]; rfl

/-- The step of such a range. -/
theorem wpList_vnext (hg : o.guard = none) (it : Operand) (hop : o.op = Op.next it false) (hk : P.underlying kt = some .string) (v : Value) (r n : Nat) (f : Str → Option Value) (L : Str → Bool) (cnt : Nat)
    (hit : a.eval it = .pointer (some ⟨r, 0, none⟩)) (h : RangeV P kt w v r n f L cnt)
    (hDone : (∀ s, L s = false) → wpList P ops Q rest (a.put o.dst (.tuple #[.bool false])) w)
    (hMore : ∀ (s : Str) (u : Value) (w' : World) (cnt' : Nat), s.length ≤ 9223372036854775807 → L s = true → f s = some u → RangeV P kt w' v r n f (fun t => L t && !decide (t = s)) cnt' → cnt' < cnt → w.grownBy w' (some r) → w'.heap.size = w.heap.size →
      (Instr.entry (.pointer (some ⟨r, 0, none⟩))).run P w' = .ok (.tuple #[sv s, u]) w' → wpList P ops Q rest (a.put o.dst (.tuple #[.bool true, sv s, u])) w') : wpList P ops Q (o :: rest) a w := by
  rcases h with ⟨rfl, h1, h2, rfl⟩ | ⟨b, rfl, D, lf, h, h2, h3, hcn, hLs⟩
  · refine wpList_plain hg fun K' hK' => ?_
    have hrun : (Instr.next (.pointer (some ⟨r, 0, none⟩)) false o.type).run P w = .ok (.tuple #[.bool false]) w := by
      simp only [Instr.next, getObj, Sem.run_bind, Sem.run, h1, Result.andThen]
      rfl
    unfold Oper.wp
    simp [execOp, hop, hit, hrun, Result.andThen]
    exact hK' _ _ (hDone h2)
  · refine wpList_next_ranges w hg it hop kt (Maps.string_keyed hk) heldR Value.string (fun v : Value => v) (fun key kl hkey => Maps.keyOf_string_inv hk hkey) (fun v y _ => ⟨v, rfl⟩) b r n D lf cnt hit h ?_ ?_
    · intro _ hl
      exact hDone fun s => by rw [← h3]; exact hl _
    · intro x c kl y w' cnt' hkey hlk hv hat hrg hlt hgr hsz hen
      have hx : x = ⟨x.data.toList.toArray⟩ := by simp
      have hkl : kl = .string x.data.toList ∧ x.data.toList.length ≤ 9223372036854775807 := by
        simp [keyOf, hk, mapKey] at hkey
        refine ⟨?_, ?_⟩
        · first | exact hkey.2.symm | exact hkey.1.symm | (obtain ⟨_, h⟩ := hkey; exact h.symm)
        · have := hkey
          simp [maxLen] at this
          first | omega | (simp at *; omega)
      obtain ⟨rfl, hxl⟩ := hkl
      have hfs : f x.data.toList = some c := by
        rcases h2 x.data.toList with ⟨e1, e2⟩ | ⟨u, e1, e2, e3⟩
        · have := hLs x.data.toList (by rw [← h3]; exact hlk)
          rw [e1] at this
          cases this
        · have := hat .nil
          rw [e3] at this
          simp only [heldR, Option.some.injEq] at hv
          rw [← hv] at this
          simp at this
          rw [e1, this]
      refine hMore x.data.toList c w' cnt' hxl (by rw [← h3]; exact hlk) hfs (.inr ⟨b, rfl, D, _, hrg, h2, fun s => ?_, by omega, fun s hs => hLs s (by simp at hs; exact hs.1)⟩) hlt hgr hsz hen
      show (lf (.string s) && !(Lit.string s).sameKey (.string x.data.toList)) = (L s && !decide (s = x.data.toList))
      rw [h3]
      by_cases e : s = x.data.toList
      · rw [← e, WideAt.sameKey_self (isKey_string s)]
        simp
      · have : (Lit.string s).sameKey (.string x.data.toList) = false := Maps.sameKey_ne (fun h => e (by injection h))
        rw [this]
        simp [e]
end
end Go.Proofs.YtdejcdmgcckmoaaGreatDoor

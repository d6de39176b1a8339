/- A part of the proofs about gocc: K2. -/
import Derived.Test.YtdejcdmgcckmoaaGreatDoorXK1
import Derived.StillTailTactics
import Derived.Deep.RegionLaw
namespace Go.Proofs.YtdejcdmgcckmoaaGreatDoor
open Go.RowKit Lr

theorem ownBlock_ne {w : World} {base : Nat} {e t : TypeId} {size : Nat} {v : Value} {n : Nat} {xs : List Value} {b : Nat} {c : Array Value} {f : Nat × Nat} (h : w.ownsRow base e size v n xs) (hb : w.heap[b]? = some (.cells c t f)) (hne : e ≠ t) : v.ownBlock ≠ some b := by
  intro e'
  rcases h.2 with ⟨rfl, _⟩ | ⟨g, cap, cur, rfl, _, hg, _⟩
  · cases e'
  · simp [Value.ownBlock] at e'
    subst e'
    rw [hg] at hb
    cases hb
    exact hne rfl
theorem New.heap {w w' : World} (h : New w w') {b : Nat} {o : Obj} (hb : w.heap[b]? = some o) : w'.heap[b]? = some o :=
  (h.block b (lt_of_block hb)).trans hb
theorem New.setCell {w w' : World} (h : New w w') {a : Addr} (ha : w.heap.size ≤ a.block) (u : Value) : New w (w'.setCell a u) := Below.setCell h ha u


/-- Every element reads as itself. -/
def heldR (v : Value) : Option (DataW Value × List MemPlace) := some (.held v, [])

/-- Block b is a map, keyed by strings, of at most n entries; what it holds at a key. -/
def MapF (P : Program) (kt : TypeId) (w : World) (b n : Nat) (f : Str → Option Value) : Prop :=
  ∃ D, w.ownsMap P kt heldR b n D ∧ ∀ s : Str, (f s = none ∧ Maps.has D (.string s) = false) ∨ (∃ v, f s = some v ∧ Maps.has D (.string s) = true ∧ ∀ z, D.atKey (.string s) z = .held v)

section
variable {P : Program} {kt t e : TypeId} {w : World} {b n : Nat} {f : Str → Option Value}
theorem MapF.made (w : World) : MapF P kt (w.alloc (.map #[] 0)) w.heap.size 0 (fun _ => none) :=
  ⟨_, World.ownsMap_made _ _ _ _, fun _ => .inl ⟨rfl, rfl⟩⟩
theorem MapF.kept {w' : World} {row : Option Nat} (h : MapF P kt w b n f) (hg : w.grownBy w' row) (hne : some b ≠ row) : MapF P kt w' b n f := by
  obtain ⟨D, h1, h2⟩ := h
  exact ⟨D, h1.kept hg hne, h2⟩
theorem MapF.new {w' : World} (h : MapF P kt w b n f) (hn : New w w') : MapF P kt w' b n f := h.kept (hn.grown none) (by simp)
theorem MapF.lt (h : MapF P kt w b n f) : b < w.heap.size := by obtain ⟨D, h1, _⟩ := h; exact h1.lt
theorem MapF.block (h : MapF P kt w b n f) : ∃ es c, w.heap[b]? = some (.map es c) := by
  obtain ⟨D, ⟨es, c, h1, _⟩, _⟩ := h
  exact ⟨es, c, h1⟩
theorem MapF.mono (h : MapF P kt w b n f) {m : Nat} (hm : n ≤ m) : MapF P kt w b m f := by
  obtain ⟨D, h1, h2⟩ := h
  exact ⟨D, h1.mono hm, h2⟩
theorem MapF.setCell (h : MapF P kt w b n f) {a : Addr} {v u : Value} (hc : w.cell? a = some v) : MapF P kt (w.setCell a u) b n f := by
  obtain ⟨es, c, hb⟩ := h.block
  obtain ⟨D, h1, h2⟩ := h
  refine ⟨D, h1.setCell (fun e => ?_) u, h2⟩
  subst e
  simp [World.cell?, hb] at hc

theorem isKey_string (s : Str) : WideAt.IsKeyLit (.string s) := by simp [WideAt.IsKeyLit]
theorem key_sv (hk : P.underlying kt = some .string) {s : Str} (hs : s.length ≤ 9223372036854775807) : keyOf P kt (sv s) = some (.string s) := by
  have := WideMaps.keyOf_string_mk (P := P) (k := kt) hk (s := ⟨s.toArray⟩) (by unfold maxLen; exact hs)
  simpa using this

/-- `v, ok := m[k]` -/
theorem MapF.look_ok (h : MapF P kt w b n f) (hk : P.underlying kt = some .string) (ht : P.underlying t = some (.map kt e)) {z : Value} (hz : (zeroValue e).run P w = .ok z w) {s : Str} (hs : s.length ≤ 9223372036854775807) :
    (Instr.lookup t (.map (some b)) (sv s) true).run P w = .ok (.tuple #[(f s).getD z, .bool (f s).isSome]) w := by
  obtain ⟨D, h1, h2⟩ := h
  obtain ⟨v, ps, hrun, hv⟩ := h1.look_ok (Maps.string_keyed hk) ht hz (zd := .held z) (zp := []) rfl (key_sv hk hs)
  rw [hrun]
  simp only [heldR, Option.some.injEq, Prod.mk.injEq] at hv
  rcases h2 s with ⟨e1, e2⟩ | ⟨u, e1, e2, e3⟩
  · rw [Maps.atKey_of_not_has e2] at hv
    have := hv.1
    simp at this
    rw [e1, e2, this]; rfl
  · rw [e3] at hv
    have := hv.1
    simp at this
    rw [e1, e2, this]; rfl
/-- `m[k]` -/
theorem MapF.look (h : MapF P kt w b n f) (hk : P.underlying kt = some .string) (ht : P.underlying t = some (.map kt e)) {z : Value} (hz : (zeroValue e).run P w = .ok z w) {s : Str} (hs : s.length ≤ 9223372036854775807) :
    (Instr.lookup t (.map (some b)) (sv s) false).run P w = .ok ((f s).getD z) w := by
  obtain ⟨D, h1, h2⟩ := h
  obtain ⟨v, ps, hrun, hv⟩ := h1.lookup (Maps.string_keyed hk) ht hz (zd := .held z) (zp := []) rfl (key_sv hk hs)
  rw [hrun]
  simp only [heldR, Option.some.injEq, Prod.mk.injEq] at hv
  rcases h2 s with ⟨e1, e2⟩ | ⟨u, e1, e2, e3⟩
  · rw [Maps.atKey_of_not_has e2] at hv
    have := hv.1
    simp at this
    rw [e1, this]; rfl
  · rw [e3] at hv
    have := hv.1
    simp at this
    rw [e1, this]; rfl

def putF (f : Str → Option Value) (s : Str) (v : Value) : Str → Option Value := fun t => if t = s then some v else f t

theorem MapF.store (h : MapF P kt w b n f) (hk : P.underlying kt = some .string) (ht : P.underlying t = some (.map kt e)) (hn : n < 9223372036854775807) {s : Str} (hs : s.length ≤ 9223372036854775807) (v : Value) :
    ∃ w', (Instr.mapUpdate t (.map (some b)) (sv s) v).run P w = .ok () w' ∧ MapF P kt w' b (n + 1) (putF f s v) ∧ w.grownBy w' (some b) := by
  obtain ⟨D, h1, h2⟩ := h
  obtain ⟨w', r1, r2, r3⟩ := h1.update (Maps.string_keyed hk) ht (by unfold maxLen; omega) (key_sv hk hs) (val := v) (d := .held v) (ps := []) rfl
  refine ⟨w', r1, ⟨_, r2, fun u => ?_⟩, r3⟩
  by_cases hu : u = s
  · subst hu
    right
    exact ⟨v, by simp [putF], Maps.has_put_same h1.isMap (isKey_string u) _, fun z => Maps.atKey_put_same h1.isMap (isKey_string u) _ _⟩
  · have hne : (Lit.string u) ≠ Lit.string s := fun e => hu (by injection e)
    rw [Maps.has_put_other hne]
    rcases h2 u with ⟨e1, e2⟩ | ⟨x, e1, e2, e3⟩
    · exact .inl ⟨by simp [putF, hu, e1], e2⟩
    · exact .inr ⟨x, by simp [putF, hu, e1], e2, fun z => by rw [Maps.atKey_put_other hne]; exact e3 z⟩
end

section
variable {P : Program} (w : World) {ops : Array Oper} {rest : List Oper} {o : Oper} {a : Act} {Q : Exit → Act → World → Prop} {kt : TypeId}
theorem wpList_look_ok (hg : o.guard = none) (m x : Operand) (t e : TypeId) (hop : o.op = Op.lookup t m x true) (hk : P.underlying kt = some .string) (ht : P.underlying t = some (.map kt e)) {z : Value} (hz : (zeroValue e).run P w = .ok z w)
    (b n : Nat) (f : Str → Option Value) (hm : a.eval m = .map (some b)) (h : MapF P kt w b n f) (s : Str) (hx : a.eval x = sv s) (hs : s.length ≤ 9223372036854775807)
    (hK : wpList P ops Q rest (a.put o.dst (.tuple #[(f s).getD z, .bool (f s).isSome])) w) : wpList P ops Q (o :: rest) a w := by
  refine wpList_plain hg fun K' hK' => ?_
  have hrun := h.look_ok hk ht hz hs
  unfold Oper.wp
  simp [execOp, hop, hm, hx, hrun, Result.andThen]
  exact hK' _ _ hK
theorem wpList_look (hg : o.guard = none) (m x : Operand) (t e : TypeId) (hop : o.op = Op.lookup t m x false) (hk : P.underlying kt = some .string) (ht : P.underlying t = some (.map kt e)) {z : Value} (hz : (zeroValue e).run P w = .ok z w)
    (b n : Nat) (f : Str → Option Value) (hm : a.eval m = .map (some b)) (h : MapF P kt w b n f) (s : Str) (hx : a.eval x = sv s) (hs : s.length ≤ 9223372036854775807)
    (hK : wpList P ops Q rest (a.put o.dst ((f s).getD z)) w) : wpList P ops Q (o :: rest) a w := by
  refine wpList_plain hg fun K' hK' => ?_
  have hrun := h.look hk ht hz hs
  unfold Oper.wp
  simp [execOp, hop, hm, hx, hrun, Result.andThen]
  exact hK' _ _ hK
theorem wpList_mstore (hg : o.guard = none) (m x v : Operand) (t e : TypeId) (hop : o.op = Op.mapUpdate t m x v) (hk : P.underlying kt = some .string) (ht : P.underlying t = some (.map kt e))
    (b n : Nat) (f : Str → Option Value) (hm : a.eval m = .map (some b)) (h : MapF P kt w b n f) (hn : n < 9223372036854775807) (s : Str) (hx : a.eval x = sv s) (hs : s.length ≤ 9223372036854775807) (val : Value) (hv : a.eval v = val)
    (hK : ∀ w', MapF P kt w' b (n + 1) (putF f s val) → w.grownBy w' (some b) → wpList P ops Q rest (a.put o.dst undef) w') : wpList P ops Q (o :: rest) a w := by
  refine wpList_plain hg fun K' hK' => ?_
  obtain ⟨w', hrun, r1, r2⟩ := h.store hk ht hn hs val
  unfold Oper.wp
  simp [execOp, hop, hm, hx, hv, hrun, Result.andThen]
  exact hK' _ _ (hK w' r1 r2)
end
theorem cell_of_blk {w : World} {p : Nat} {c : Array Value} {t : TypeId} {f : Nat × Nat} (h : w.heap[p]? = some (.cells c t f)) (o : Nat) : w.cell? ⟨p, o, none⟩ = c[o]? := by simp [World.cell?, h]
theorem free_of_blk {w : World} {p : Nat} {c : Array Value} {t : TypeId} (h : w.heap[p]? = some (.cells c t (0, 0))) (o : Nat) : w.frozen? ⟨p, o, none⟩ = false := by simp [World.frozen?, h]
theorem set_of_blk {w : World} {p : Nat} {c : Array Value} {t : TypeId} {f : Nat × Nat} (h : w.heap[p]? = some (.cells c t f)) (o : Nat) (u : Value) : (w.setCell ⟨p, o, none⟩ u).heap[p]? = some (.cells (c.setIfInBounds o u) t f) := by
  simp [World.setCell, Array.getElem?_modify, h]
theorem ownBlock_ne_map {w : World} {base : Nat} {e : TypeId} {size : Nat} {v : Value} {n : Nat} {xs : List Value} {P : Program} {kt : TypeId} {b m : Nat} {f : Str → Option Value} (h : w.ownsRow base e size v n xs) (hb : MapF P kt w b m f) : v.ownBlock ≠ some b := by
  intro e'
  obtain ⟨es, c, hm⟩ := hb.block
  rcases h.2 with ⟨rfl, _⟩ | ⟨g, cap, cur, rfl, _, hg, _⟩
  · cases e'
  · simp [Value.ownBlock] at e'
    subst e'
    rw [hg] at hm
    cases hm
end Go.Proofs.YtdejcdmgcckmoaaGreatDoor

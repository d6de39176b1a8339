/- A part of the proofs about gocc: K3. -/
import Derived.Test.YtdejcdmgcckmoaaGreatDoorXK2
import Derived.Sort.MapsRangeIn
import Derived.Laws.IdiomRangeMap
namespace Go.Proofs.YtdejcdmgcckmoaaGreatDoor
open Go.RowKit Lr

/-- D holds at each string what f says. -/
def ReadsF (D : DataW Value) (f : Str → Option Value) : Prop :=
  ∀ s : Str, (f s = none ∧ Maps.has D (.string s) = false) ∨ (∃ v, f s = some v ∧ Maps.has D (.string s) = true ∧ ∀ z, D.atKey (.string s) z = .held v)

/-- A range over a map keyed by strings, under way; L says which keys are still to come. -/
def RangeF (P : Program) (kt : TypeId) (w : World) (b r n : Nat) (f : Str → Option Value) (L : Str → Bool) (cnt : Nat) : Prop :=
  ∃ D lf, w.ranges P kt heldR b r n D lf cnt ∧ ReadsF D f ∧ (∀ s, lf (.string s) = L s) ∧ cnt ≤ n ∧ ∀ s, L s = true → (f s).isSome = true

/-- The same, of a map that may be nil. -/
def MapV (P : Program) (kt : TypeId) (w : World) (v : Value) (n : Nat) (f : Str → Option Value) : Prop :=
  (v = .map none ∧ f = fun _ => none) ∨ ∃ b, v = .map (some b) ∧ MapF P kt w b n f
def RangeV (P : Program) (kt : TypeId) (w : World) (v : Value) (r n : Nat) (f : Str → Option Value) (L : Str → Bool) (cnt : Nat) : Prop :=
  (v = .map none ∧ w.heap[r]? = some (.mapIter none 0 #[] 0) ∧ (∀ s, L s = false) ∧ cnt = 0) ∨ ∃ b, v = .map (some b) ∧ RangeF P kt w b r n f L cnt

section
variable {P : Program} {kt t e : TypeId} {w : World} {b r n cnt : Nat} {f : Str → Option Value} {L : Str → Bool} {v : Value}
theorem RangeF.kept {w' : World} {row : Option Nat} (h : RangeF P kt w b r n f L cnt) (hg : w.grownBy w' row) (hb : some b ≠ row) (hr : some r ≠ row) : RangeF P kt w' b r n f L cnt := by
  obtain ⟨D, lf, h1, h2⟩ := h
  exact ⟨D, lf, h1.kept hg hb hr, h2⟩
theorem RangeF.map (h : RangeF P kt w b r n f L cnt) : MapF P kt w b n f := by
  obtain ⟨D, lf, h1, h2, _⟩ := h
  exact ⟨D, h1.owns, h2⟩
theorem RangeF.lt (h : RangeF P kt w b r n f L cnt) : r < w.heap.size := by obtain ⟨D, lf, h1, _⟩ := h; exact h1.lt
theorem RangeV.lt (h : RangeV P kt w v r n f L cnt) : r < w.heap.size := by
  rcases h with ⟨_, h, _⟩ | ⟨b, _, h⟩
  · exact lt_of_block h
  · exact h.lt
theorem MapV.new {w' : World} (h : MapV P kt w v n f) (hn : New w w') : MapV P kt w' v n f := h.imp id fun ⟨b, e, h⟩ => ⟨b, e, h.new hn⟩
theorem MapV.kept {w' : World} {row : Option Nat} (h : MapV P kt w v n f) (hg : w.grownBy w' row) (hne : ∀ b, v = .map (some b) → some b ≠ row) : MapV P kt w' v n f := h.imp id fun ⟨b, e, h⟩ => ⟨b, e, h.kept hg (hne b e)⟩
theorem MapV.mono (h : MapV P kt w v n f) {m : Nat} (hm : n ≤ m) : MapV P kt w v m f := h.imp id fun ⟨b, e, h⟩ => ⟨b, e, h.mono hm⟩
theorem RangeV.cnt_le (h : RangeV P kt w v r n f L cnt) : cnt ≤ n := by
  rcases h with ⟨_, _, _, rfl⟩ | ⟨b, _, D, lf, _, _, _, h, _⟩
  · exact Nat.zero_le _
  · exact h

theorem MapF.del (h : MapF P kt w b n f) (hk : P.underlying kt = some .string) (ht : P.underlying t = some (.map kt e)) {s : Str} (hs : s.length ≤ 9223372036854775807) (ty : TypeId) :
    ∃ w', (Builtin.delete_ #[t, kt] ty #[.map (some b), sv s]).run P w = .ok (.tuple #[]) w' ∧ MapF P kt w' b n (fun u => if u = s then none else f u) ∧ w.grownBy w' (some b) := by
  obtain ⟨D, h1, h2⟩ := h
  obtain ⟨w', r1, r2, r3⟩ := h1.drop (Maps.string_keyed hk) ht (key_sv hk hs) ty
  refine ⟨w', r1, ⟨_, r2, fun u => ?_⟩, r3.grown⟩
  by_cases hu : u = s
  · subst hu
    exact .inl ⟨by simp, Maps.has_del_same⟩
  · have hne : (Lit.string u) ≠ Lit.string s := fun e => hu (by injection e)
    rw [Maps.has_del_other hne]
    rcases h2 u with ⟨e1, e2⟩ | ⟨x, e1, e2, e3⟩
    · exact .inl ⟨by simp [hu, e1], e2⟩
    · exact .inr ⟨x, by simp [hu, e1], e2, fun z => by rw [Maps.atKey_del_other hne]; exact e3 z⟩
end

section
variable {P : Program} (w : World) {ops : Array Oper} {rest : List Oper} {o : Oper} {a : Act} {Q : Exit → Act → World → Prop} {kt : TypeId}

theorem wpList_mdel (hg : o.guard = none) (m x : Operand) (t e : TypeId) (hop : o.op = Op.call { callee := Callee.builtin Builtin.delete, args := #[m, x], argTypes := #[t, kt] }) (hk : P.underlying kt = some .string) (ht : P.underlying t = some (.map kt e))
    (b n : Nat) (f : Str → Option Value) (hm : a.eval m = .map (some b)) (h : MapF P kt w b n f) (s : Str) (hx : a.eval x = sv s) (hs : s.length ≤ 9223372036854775807)
    (hK : ∀ w', MapF P kt w' b n (fun u => if u = s then none else f u) → w.grownBy w' (some b) → wpList P ops Q rest (a.put o.dst (.tuple #[])) w') : wpList P ops Q (o :: rest) a w := by
  refine wpList_plain hg fun K' hK' => ?_
  obtain ⟨w', hrun, r1, r2⟩ := h.del hk ht hs o.type
  unfold Oper.wp
  simp [execOp, hop, resolve, invoke, builtin, hm, hx, hrun, Result.andThen]
  exact hK' _ _ (hK w' r1 r2)

theorem wpList_minsert (hg : o.guard = none) (m x v : Operand) (t e : TypeId) (hop : o.op = Op.insert t m x v) (hk : P.underlying kt = some .string) (ht : P.underlying t = some (.map kt e))
    (b n : Nat) (f : Str → Option Value) (hm : a.eval m = .map (some b)) (h : MapF P kt w b n f) (hn : n < 9223372036854775807) (s : Str) (hx : a.eval x = sv s) (hs : s.length ≤ 9223372036854775807) (val : Value) (hv : a.eval v = val)
    (hK : ∀ w', MapF P kt w' b (n + 1) (putF f s val) → w.grownBy w' (some b) → wpList P ops Q rest (a.put o.dst undef) w') : wpList P ops Q (o :: rest) a w := by
  refine wpList_plain hg fun K' hK' => ?_
  obtain ⟨w', hrun, r1, r2⟩ := h.store hk ht hn hs val
  unfold Oper.wp
  simp [execOp, hop, hm, hx, hv, hrun, Result.andThen]
  exact hK' _ _ (hK w' r1 r2)

/-- `len(m)` -/
theorem wpList_mlen (hg : o.guard = none) (m : Operand) (t e : TypeId) (hop : o.op = Op.call { callee := Callee.builtin Builtin.len, args := #[m], argTypes := #[t] }) (ht : P.underlying t = some (.map kt e)) (v : Value)
    (n : Nat) (f : Str → Option Value) (hm : a.eval m = v) (h : MapV P kt w v n f)
    (hK : ∀ k : Nat, k ≤ n → wpList P ops Q rest (a.put o.dst (.int .i64 k)) w) : wpList P ops Q (o :: rest) a w := by
  refine wpList_plain hg fun K' hK' => ?_
  rcases h with ⟨rfl, rfl⟩ | ⟨b, rfl, D, h, _⟩
  · unfold Oper.wp
    simp [execOp, hop, resolve, invoke, builtin, hm, Maps.len_nil ht o.type, Result.andThen]
    exact hK' _ _ (hK 0 (Nat.zero_le _))
  · unfold Oper.wp
    simp [execOp, hop, resolve, invoke, builtin, hm, h.len ht o.type, Result.andThen]
    exact hK' _ _ (hK _ h.size_le)

/-- `v, ok := m[k]` of a map that may be nil. -/
theorem wpList_vlook_ok (hg : o.guard = none) (m x : Operand) (t e : TypeId) (hop : o.op = Op.lookup t m x true) (hk : P.underlying kt = some .string) (ht : P.underlying t = some (.map kt e)) {z : Value} (hz : (zeroValue e).run P w = .ok z w)
    (v : Value) (n : Nat) (f : Str → Option Value) (hm : a.eval m = v) (h : MapV P kt w v n f) (s : Str) (hx : a.eval x = sv s) (hs : s.length ≤ 9223372036854775807)
    (hK : wpList P ops Q rest (a.put o.dst (.tuple #[(f s).getD z, .bool (f s).isSome])) w) : wpList P ops Q (o :: rest) a w := by
  rcases h with ⟨rfl, rfl⟩ | ⟨b, rfl, h⟩
  · refine wpList_plain hg fun K' hK' => ?_
    have hrun := Maps.look_nil (P := P) (w := w) true (Maps.string_keyed hk) ht hz (key_sv hk hs)
    unfold Oper.wp
    simp [execOp, hop, hm, hx, hrun, Result.andThen]
    exact hK' _ _ (by simpa using hK)
  · exact wpList_look_ok w hg m x t e hop hk ht hz b n f hm h s hx hs hK

/-- `range m` of a map that may be nil. -/
theorem wpList_vrange (hg : o.guard = none) (m : Operand) (t e : TypeId) (hop : o.op = Op.range t m) (hk : P.underlying kt = some .string) (ht : P.underlying t = some (.map kt e)) (v : Value) (n : Nat) (f : Str → Option Value)
    (hm : a.eval m = v) (h : MapV P kt w v n f)
    (hK : ∀ w' cnt, RangeV P kt w' v w.heap.size n f (fun s => (f s).isSome) cnt → w.grownBy w' none → wpList P ops Q rest (a.put o.dst (.pointer (some ⟨w.heap.size, 0, none⟩))) w') : wpList P ops Q (o :: rest) a w := by
  rcases h with ⟨rfl, rfl⟩ | ⟨b, rfl, D, h, h2⟩
  · refine wpList_plain hg fun K' hK' => ?_
    unfold Oper.wp
    simp [execOp, hop, hm, run_range_nilMap w t kt e ht, Result.andThen]
    exact hK' _ _ (hK _ 0 (.inl ⟨rfl, heap_alloc_new w _, fun _ => rfl, rfl⟩) (World.grownBy_alloc w _ none))
  · refine wpList_range_own w hg m t hop kt e (Maps.string_keyed hk) ht heldR b n D hm h ?_
    intro w' r1 r2 r3
    refine hK w' _ (.inr ⟨b, rfl, D, _, r1, h2, fun s => ?_, h.size_le, fun _ h => h⟩) r2
    show Maps.has D (.string s) = (f s).isSome
    rcases h2 s with ⟨e1, e2⟩ | ⟨x, e1, e2, _⟩
    · rw [e1, e2]; rfl
    · rw [e1, e2]; rfl

/-- The step of such a range. -/
theorem wpList_vnext (hg : o.guard = none) (it : Operand) (hop : o.op = Op.next it false) (hk : P.underlying kt = some .string) (v : Value) (r n : Nat) (f : Str → Option Value) (L : Str → Bool) (cnt : Nat)
    (hit : a.eval it = .pointer (some ⟨r, 0, none⟩)) (h : RangeV P kt w v r n f L cnt)
    (hDone : (∀ s, L s = false) → wpList P ops Q rest (a.put o.dst (.tuple #[.bool false])) w)
    (hMore : ∀ (s : Str) (u : Value) (w' : World) (cnt' : Nat), s.length ≤ 9223372036854775807 → L s = true → f s = some u → RangeV P kt w' v r n f (fun t => L t && !decide (t = s)) cnt' → cnt' < cnt → w.grownBy w' (some r) → w'.heap.size = w.heap.size →
      (Instr.entry (.pointer (some ⟨r, 0, none⟩))).run P w' = .ok (.tuple #[sv s, u]) w' → wpList P ops Q rest (a.put o.dst (.tuple #[.bool true, sv s, u])) w') : wpList P ops Q (o :: rest) a w := by
  rcases h with ⟨rfl, h1, h2, rfl⟩ | ⟨b, rfl, D, lf, h, h2, h3, hcn, hLs⟩
  · refine wpList_plain hg fun K' hK' => ?_
    have hrun : (Instr.next (.pointer (some ⟨r, 0, none⟩)) false o.type).run P w = .ok (.tuple #[.bool false]) w := by
      simp only [Instr.next, getObj, Sem.run_bind, Sem.run, h1, Result.andThen]
      rfl
    unfold Oper.wp
    simp [execOp, hop, hit, hrun, Result.andThen]
    exact hK' _ _ (hDone h2)
  · refine wpList_next_ranges w hg it hop kt (Maps.string_keyed hk) heldR Value.string (fun v : Value => v) (fun key kl hkey => Maps.keyOf_string_inv hk hkey) (fun v y _ => ⟨v, rfl⟩) b r n D lf cnt hit h ?_ ?_
    · intro _ hl
      exact hDone fun s => by rw [← h3]; exact hl _
    · intro x c kl y w' cnt' hkey hlk hv hat hrg hlt hgr hsz hen
      have hx : x = ⟨x.data.toList.toArray⟩ := by simp
      have hkl : kl = .string x.data.toList ∧ x.data.toList.length ≤ 9223372036854775807 := by
        simp [keyOf, hk, mapKey] at hkey
        refine ⟨?_, ?_⟩
        · first | exact hkey.2.symm | exact hkey.1.symm | (obtain ⟨_, h⟩ := hkey; exact h.symm)
        · have := hkey
          simp [maxLen] at this
          first | omega | (simp at *; omega)
      obtain ⟨rfl, hxl⟩ := hkl
      have hfs : f x.data.toList = some c := by
        rcases h2 x.data.toList with ⟨e1, e2⟩ | ⟨u, e1, e2, e3⟩
        · have := hLs x.data.toList (by rw [← h3]; exact hlk)
          rw [e1] at this
          cases this
        · have := hat .nil
          rw [e3] at this
          simp only [heldR, Option.some.injEq] at hv
          rw [← hv] at this
          simp at this
          rw [e1, this]
      refine hMore x.data.toList c w' cnt' hxl (by rw [← h3]; exact hlk) hfs (.inr ⟨b, rfl, D, _, hrg, h2, fun s => ?_, by omega, fun s hs => hLs s (by simp at hs; exact hs.1)⟩) hlt hgr hsz hen
      show (lf (.string s) && !(Lit.string s).sameKey (.string x.data.toList)) = (L s && !decide (s = x.data.toList))
      rw [h3]
      by_cases e : s = x.data.toList
      · rw [← e, WideAt.sameKey_self (isKey_string s)]
        simp
      · have : (Lit.string s).sameKey (.string x.data.toList) = false := Maps.sameKey_ne (fun h => e (by injection h))
        rw [this]
        simp [e]
end
end Go.Proofs.YtdejcdmgcckmoaaGreatDoor

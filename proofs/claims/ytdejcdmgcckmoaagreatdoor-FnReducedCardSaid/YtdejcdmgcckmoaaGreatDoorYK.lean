/- A world for the witness; how an argument opens. -/
import Derived.Test.YtdejcdmgcckmoaaGreatDoorRows
import Derived.Deep.DeepHandedRow
import Derived.Deep.DeepWitnessRowRef
import Derived.Lib.LaidIn
import Derived.Lib.LaidSlice
import Derived.ProofKit
import Derived.Test.YtdejcdmgcckmoaaGreatDoorYC
import Derived.Deep.SlicePairs
import Derived.Deep.Strs
namespace Go.Proofs.YtdejcdmgcckmoaaGreatDoor
open Go.ChangeShapes Go.WideShapes Go.ChangeAt Go.RowKit Go.Lib

/-- The cells of a table, off what it reads as. -/
def litCell : Lit → Value
  | .int k n => .int k n
  | .bool b => .bool b
  | .string s => .string ⟨s.toArray⟩
  | _ => .nilIface
def dataCells : DataW Unit → List Value
  | .lit l => [litCell l]
  | .agg a => a.flatMap fun d => match d with
    | .lit l => [litCell l]
    | .agg b => b.flatMap fun d => match d with
      | .lit l => [litCell l]
      | _ => []
    | _ => []
  | _ => []
/-- The numbers of a slice's table. -/
def dataNats : DataW Unit → List Nat
  | .slice a _ => a.map fun d => match d with
    | .lit (.int _ n) => n.toNat
    | _ => 0
  | _ => []
theorem own : ownKnob Tryz.prog.godebug = none := by kernel_rfl

abbrev gGraphic : List Nat := dataNats Rows.laid_strconv_isGraphic
abbrev gN16 : List Nat := dataNats Rows.laid_strconv_isNotPrint16
abbrev gN32 : List Nat := dataNats Rows.laid_strconv_isNotPrint32
abbrev gP16 : List Nat := dataNats Rows.laid_strconv_isPrint16
abbrev gP32 : List Nat := dataNats Rows.laid_strconv_isPrint32
set_option maxRecDepth 100000 in
theorem eqGraphic : Rows.laid_strconv_isGraphic = sliceData .u16 gGraphic := by kernel_rfl
set_option maxRecDepth 100000 in
theorem eqN16 : Rows.laid_strconv_isNotPrint16 = sliceData .u16 gN16 := by kernel_rfl
set_option maxRecDepth 100000 in
theorem eqN32 : Rows.laid_strconv_isNotPrint32 = sliceData .u16 gN32 := by kernel_rfl
set_option maxRecDepth 100000 in
theorem eqP16 : Rows.laid_strconv_isPrint16 = sliceData .u16 gP16 := by kernel_rfl
set_option maxRecDepth 100000 in
theorem eqP32 : Rows.laid_strconv_isPrint32 = sliceData .u32 gP32 := by kernel_rfl

/-- A world for the witness: the settled one with five blocks more, the tables laid. -/
noncomputable def laidWorld (os : Os) : World :=
  let N := (World.settled Tryz.prog os).heap.size
  let w0 := World.holding Tryz.prog os ⟨#[
    .cells (intCellsOf .u16 gGraphic) 303, .cells (intCellsOf .u16 gN16) 303, .cells (intCellsOf .u16 gN32) 303, .cells (intCellsOf .u16 gP16) 303, .cells (intCellsOf .u32 gP32) 225], #[], []⟩
  let put (h : Array Obj) (g : Nat) (cs : Array Value) : Array Obj := h.modify g fun
    | .cells _ t frozen => .cells cs t frozen
    | o => o
  let h1 := put w0.heap 0 (dataCells Rows.laid_internal_strconv_uint64pow10).toArray
  let h2 := put h1 1 (dataCells Rows.laid_unicode_utf8_first).toArray
  let h3 := put h2 2 (dataCells Rows.laid_unicode_utf8_acceptRanges).toArray
  let h4 := put h3 8 (dataCells Rows.laid_math_bits_deBruijn32tab).toArray
  let h5 := put h4 9 (dataCells Rows.laid_math_bits_deBruijn64tab).toArray
  let h6 := put h5 7 #[.slice (some ⟨N, 0, none⟩) gGraphic.length gGraphic.length]
  let h7 := put h6 4 #[.slice (some ⟨N + 1, 0, none⟩) gN16.length gN16.length]
  let h8 := put h7 6 #[.slice (some ⟨N + 2, 0, none⟩) gN32.length gN32.length]
  let h9 := put h8 3 #[.slice (some ⟨N + 3, 0, none⟩) gP16.length gP16.length]
  let h10 := put h9 5 #[.slice (some ⟨N + 4, 0, none⟩) gP32.length gP32.length]
  { w0 with heap := h10 }

noncomputable abbrev N0 : Nat := (World.settled Tryz.prog default).heap.size
noncomputable abbrev wit (os : Os) (args : Array Value) : World := ((laidWorld os).forCall (fun _ _ => 0) ⟨#[], args, []⟩).memory
theorem piece0 (os : Os) (args : Array Value) : LaidIn Tryz.prog (wit os args) [("math/bits.deBruijn32tab", Rows.laid_math_bits_deBruijn32tab), ("math/bits.deBruijn64tab", Rows.laid_math_bits_deBruijn64tab), ("internal/strconv.uint64pow10", Rows.laid_internal_strconv_uint64pow10), ("unicode/utf8.acceptRanges", Rows.laid_unicode_utf8_acceptRanges)] [8, 9, 0, 2] :=
  LaidIn.of_run [8, 9, 0, 2] 8 (by kernel_rfl) (by kernel_rfl) (by kernel_rfl) (by kernel_rfl)
set_option maxRecDepth 1000000 in
theorem piece1 (os : Os) (args : Array Value) : LaidIn Tryz.prog (wit os args) [("strconv.isGraphic", sliceData .u16 gGraphic)] [7, N0] :=
  laidIn_slice (t := 336) (e := 303) (te := 303) gGraphic N0 (by kernel_rfl) (by kernel_rfl) (by kernel_rfl) (by kernel_rfl) (by kernel_rfl) (by kernel_rfl) (by kernel_rfl) (by kernel_rfl) (of_decide_eq_true (by kernel_rfl)) (of_decide_eq_true (by kernel_rfl))
set_option maxRecDepth 1000000 in
theorem piece2 (os : Os) (args : Array Value) : LaidIn Tryz.prog (wit os args) [("strconv.isNotPrint16", sliceData .u16 gN16)] [4, N0 + 1] :=
  laidIn_slice (t := 336) (e := 303) (te := 303) gN16 (N0 + 1) (by kernel_rfl) (by kernel_rfl) (by kernel_rfl) (by kernel_rfl) (by kernel_rfl) (by kernel_rfl) (by kernel_rfl) (by kernel_rfl) (of_decide_eq_true (by kernel_rfl)) (of_decide_eq_true (by kernel_rfl))
set_option maxRecDepth 1000000 in
theorem piece3 (os : Os) (args : Array Value) : LaidIn Tryz.prog (wit os args) [("strconv.isNotPrint32", sliceData .u16 gN32)] [6, N0 + 2] :=
  laidIn_slice (t := 336) (e := 303) (te := 303) gN32 (N0 + 2) (by kernel_rfl) (by kernel_rfl) (by kernel_rfl) (by kernel_rfl) (by kernel_rfl) (by kernel_rfl) (by kernel_rfl) (by kernel_rfl) (of_decide_eq_true (by kernel_rfl)) (of_decide_eq_true (by kernel_rfl))
set_option maxRecDepth 1000000 in
theorem piece4 (os : Os) (args : Array Value) : LaidIn Tryz.prog (wit os args) [("strconv.isPrint16", sliceData .u16 gP16)] [3, N0 + 3] :=
  laidIn_slice (t := 336) (e := 303) (te := 303) gP16 (N0 + 3) (by kernel_rfl) (by kernel_rfl) (by kernel_rfl) (by kernel_rfl) (by kernel_rfl) (by kernel_rfl) (by kernel_rfl) (by kernel_rfl) (of_decide_eq_true (by kernel_rfl)) (of_decide_eq_true (by kernel_rfl))
set_option maxRecDepth 1000000 in
theorem piece5 (os : Os) (args : Array Value) : LaidIn Tryz.prog (wit os args) [("strconv.isPrint32", sliceData .u32 gP32)] [5, N0 + 4] :=
  laidIn_slice (t := 338) (e := 225) (te := 225) gP32 (N0 + 4) (by kernel_rfl) (by kernel_rfl) (by kernel_rfl) (by kernel_rfl) (by kernel_rfl) (by kernel_rfl) (by kernel_rfl) (by kernel_rfl) (of_decide_eq_true (by kernel_rfl)) (of_decide_eq_true (by kernel_rfl))
theorem piece6 (os : Os) (args : Array Value) : LaidIn Tryz.prog (wit os args) [("unicode/utf8.first", Rows.laid_unicode_utf8_first)] [1] :=
  LaidIn.of_run [1] 8 (by kernel_rfl) (by kernel_rfl) (by kernel_rfl) (by kernel_rfl)
theorem laid_met (os : Os) (args : Array Value) : laidMet Tryz.prog Rows.fnSymbolsRow.laid (wit os args) := by
  have h := (((((((piece0 os args).append (piece1 os args) (by kernel_rfl)).append (piece2 os args) (by kernel_rfl)).append (piece3 os args) (by kernel_rfl)).append (piece4 os args) (by kernel_rfl)).append (piece5 os args) (by kernel_rfl)).append (piece6 os args) (by kernel_rfl)).met
  rw [← eqGraphic, ← eqN16, ← eqN32, ← eqP16, ← eqP32] at h
  exact h
end Go.Proofs.YtdejcdmgcckmoaaGreatDoor
namespace Go.Proofs.YtdejcdmgcckmoaaGreatDoor
open Go.ChangeShapes Go.WideShapes Go.RowKit Lr

theorem sv_bytes (s : ByteArray) : sv s.data.toList = .string s := by simp [sv]
theorem addr_plain {w : World} {a : Addr} {u : Value} (h : w.cell? a = some u) : a = ⟨a.block, a.off, none⟩ := by
  cases a with
  | mk b o sp =>
    cases sp with
    | none => rfl
    | some k =>
      unfold World.cell? at h
      split at h <;> simp at h
theorem addr_add (b o k : Nat) : (⟨b, o, none⟩ : Addr).add k = ⟨b, o + k, none⟩ := by unfold Addr.add; split <;> simp_all

section
variable {H : Type} {enc : TypeId × Value → H} {W : World} {base : Nat} {spare : Nat → Bool} {held : Bool}
theorem strs_of_trod {n : Nat} {v : Value} {x : DataW H × List MemPlace} (h : DataW.trod enc Tryz.prog W base spare held n 24 [v] = some x) :
    ∃ l : List Str, StrsAt W v l ∧ l.length ≤ 9223372036854775807 ∧ ∀ s ∈ l, s.length ≤ 9223372036854775807 := by
  rcases Deep.open_strs Tryz.underlying24 Tryz.underlying9 (by kernel_rfl) h with ⟨hc, _⟩ | ⟨a, len, cap, m, Sx, hc, _, hl, hm, hmm, _, hx⟩
  · simp only [List.cons.injEq, and_true] at hc
    subst hc
    exact ⟨[], ⟨none, 0, rfl, Nat.le_refl _, fun h => by simp at h⟩, by simp, by simp⟩
  · simp only [List.cons.injEq, and_true] at hc
    subst hc
    have hlm : len ≤ m := by rw [hmm]; split <;> omega
    refine ⟨(List.range len).map fun i => (Sx i).data.toList, ⟨some a, cap, by simp, by simpa using hl, fun h0 => ?_⟩, ?_, ?_⟩
    · simp only [List.length_map, List.length_range] at h0
      have ha := (hx 0 (by omega)).1
      have ea : a.add 0 = a := by simp [Addr.add]
      rw [ea] at ha
      have hp := addr_plain ha
      refine ⟨a.block, a.off, by rw [← hp], fun j hj => ?_⟩
      simp only [List.length_map, List.length_range] at hj
      have h1 := (hx j (by omega)).1
      rw [hp, addr_add] at h1
      rw [h1]
      simp [List.getD, hj, sv]
    · simp only [List.length_map, List.length_range]
      unfold maxLen at hm
      omega
    · intro s hs
      obtain ⟨i, hi, rfl⟩ := List.mem_map.1 hs
      have := (hx i (by have := List.mem_range.1 hi; omega)).2
      unfold maxLen at this
      simpa using this

theorem gram_of_trod {n : Nat} {v : Value} {x : DataW H × List MemPlace} (h : DataW.trod enc Tryz.prog W base spare held n 22 [v] = some x) : ∃ g : Gram, GramAt W v g ∧ Fits g := by
  rcases Deep.open_slice_pairs Tryz.underlying22 Tryz.underlying67 (by kernel_rfl) (by kernel_rfl) (by kernel_rfl) (by kernel_rfl) (by kernel_rfl) h with ⟨hc, _⟩ | ⟨a, len, cap, m, n', V0, V1, D0, D1, P0, P1, hc, _, hl, hm, hmm, _, hx⟩
  · simp only [List.cons.injEq, and_true] at hc
    subst hc
    exact ⟨[], ⟨none, 0, rfl, Nat.le_refl _, fun h => by simp at h⟩, ⟨by simp, by simp, by simp, by simp⟩⟩
  · simp only [List.cons.injEq, and_true] at hc
    subst hc
    have hlm : len ≤ m := by rw [hmm]; split <;> omega
    have each : ∀ i, i < m → ∃ p : Prd, V0 i = sv p.1 ∧ p.1.length ≤ 9223372036854775807 ∧ StrsAt W (V1 i) p.2 ∧ p.2.length ≤ 9223372036854775807 ∧ ∀ s ∈ p.2, s.length ≤ 9223372036854775807 := fun i hi => by
      obtain ⟨_, _, h2, h3⟩ := hx i hi
      obtain ⟨s, e1, e2, e3⟩ := DataW.trod_string Tryz.underlying9 h2
      obtain ⟨l, l1, l2, l3⟩ := strs_of_trod h3
      simp only [List.cons.injEq, and_true] at e1
      refine ⟨(s.data.toList, l), by rw [e1, sv_bytes], by unfold maxLen at e3; simpa using e3, l1, l2, l3⟩
    obtain ⟨G, hG⟩ := Deep.choose_lt each
    refine ⟨(List.range len).map G, ⟨some a, cap, by simp, by simpa using hl, fun h0 => ?_⟩, ?_⟩
    · simp only [List.length_map, List.length_range] at h0
      have ha := (hx 0 (by omega)).1
      have ea : a.add (0 * 2) = a := by simp [Addr.add]
      rw [ea] at ha
      have hp := addr_plain ha
      refine ⟨a.block, a.off, by rw [← hp], fun j hj => ?_⟩
      simp only [List.length_map, List.length_range] at hj
      obtain ⟨h1, h2, _⟩ := hx j (by omega)
      obtain ⟨g1, g2, g3, _⟩ := hG j (by omega)
      rw [hp, addr_add] at h1 h2
      have eg : ((List.range len).map G).getD j default = G j := by simp [List.getD, hj]
      rw [eg]
      exact ⟨by rw [h1, g1], V1 j, by rw [← Nat.add_assoc] at h2; exact h2, g3⟩
    · unfold maxLen at hm
      refine ⟨by simp; omega, fun p hp => ?_, fun p hp => ?_, fun p hp => ?_⟩
      all_goals
        obtain ⟨i, hi, rfl⟩ := List.mem_map.1 hp
        obtain ⟨_, g2, _, g4, g5⟩ := hG i (by have := List.mem_range.1 hi; omega)
        first | exact g2 | exact g4 | exact g5
end
end Go.Proofs.YtdejcdmgcckmoaaGreatDoor

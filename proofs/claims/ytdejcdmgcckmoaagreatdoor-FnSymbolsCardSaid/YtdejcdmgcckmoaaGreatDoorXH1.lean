/- A part of the proofs about gocc: H1. -/
import Derived.Test.YtdejcdmgcckmoaaGreatDoorRows
import Derived.Deep.DeepHandedRow
import Derived.Deep.DeepWitnessRowRef
import Derived.Lib.LaidIn
import Derived.Lib.LaidSlice
import Derived.ProofKit
namespace Go.Proofs.YtdejcdmgcckmoaaGreatDoor
open Go.ChangeShapes Go.WideShapes Go.ChangeAt Go.RowKit Go.Lib

/-- The cells of a table, off what it reads as. -/
def litCell : Lit → Value
  | .int k n => .int k n
  | .bool b => .bool b
  | .string s => .string ⟨s.toArray⟩
  | _ => .nilIface
def dataCells : DataW Unit → List Value
  | .lit l => [litCell l]
  | .agg a => a.flatMap fun d => match d with
    | .lit l => [litCell l]
    | .agg b => b.flatMap fun d => match d with
      | .lit l => [litCell l]
      | _ => []
    | _ => []
  | _ => []
/-- The numbers of a slice's table. -/
def dataNats : DataW Unit → List Nat
  | .slice a _ => a.map fun d => match d with
    | .lit (.int _ n) => n.toNat
    | _ => 0
  | _ => []
theorem own : ownKnob Tryz.prog.godebug = none := by kernel_rfl

abbrev gGraphic : List Nat := dataNats Rows.laid_strconv_isGraphic
abbrev gN16 : List Nat := dataNats Rows.laid_strconv_isNotPrint16
abbrev gN32 : List Nat := dataNats Rows.laid_strconv_isNotPrint32
abbrev gP16 : List Nat := dataNats Rows.laid_strconv_isPrint16
abbrev gP32 : List Nat := dataNats Rows.laid_strconv_isPrint32
set_option maxRecDepth 100000 in
theorem eqGraphic : Rows.laid_strconv_isGraphic = sliceData .u16 gGraphic := by kernel_rfl
set_option maxRecDepth 100000 in
theorem eqN16 : Rows.laid_strconv_isNotPrint16 = sliceData .u16 gN16 := by kernel_rfl
set_option maxRecDepth 100000 in
theorem eqN32 : Rows.laid_strconv_isNotPrint32 = sliceData .u16 gN32 := by kernel_rfl
set_option maxRecDepth 100000 in
theorem eqP16 : Rows.laid_strconv_isPrint16 = sliceData .u16 gP16 := by kernel_rfl
set_option maxRecDepth 100000 in
theorem eqP32 : Rows.laid_strconv_isPrint32 = sliceData .u32 gP32 := by kernel_rfl

/-- A world for the witness: the settled one with five blocks more, the tables laid. -/
noncomputable def laidWorld (os : Os) : World :=
  let N := (World.settled Tryz.prog os).heap.size
  let w0 := World.holding Tryz.prog os ⟨#[
    .cells (intCellsOf .u16 gGraphic) 303, .cells (intCellsOf .u16 gN16) 303, .cells (intCellsOf .u16 gN32) 303, .cells (intCellsOf .u16 gP16) 303, .cells (intCellsOf .u32 gP32) 225], #[], []⟩
  let put (h : Array Obj) (g : Nat) (cs : Array Value) : Array Obj := h.modify g fun
    | .cells _ t frozen => .cells cs t frozen
    | o => o
  let h1 := put w0.heap 0 (dataCells Rows.laid_internal_strconv_uint64pow10).toArray
  let h2 := put h1 1 (dataCells Rows.laid_unicode_utf8_first).toArray
  let h3 := put h2 2 (dataCells Rows.laid_unicode_utf8_acceptRanges).toArray
  let h4 := put h3 8 (dataCells Rows.laid_math_bits_deBruijn32tab).toArray
  let h5 := put h4 9 (dataCells Rows.laid_math_bits_deBruijn64tab).toArray
  let h6 := put h5 7 #[.slice (some ⟨N, 0, none⟩) gGraphic.length gGraphic.length]
  let h7 := put h6 4 #[.slice (some ⟨N + 1, 0, none⟩) gN16.length gN16.length]
  let h8 := put h7 6 #[.slice (some ⟨N + 2, 0, none⟩) gN32.length gN32.length]
  let h9 := put h8 3 #[.slice (some ⟨N + 3, 0, none⟩) gP16.length gP16.length]
  let h10 := put h9 5 #[.slice (some ⟨N + 4, 0, none⟩) gP32.length gP32.length]
  { w0 with heap := h10 }

noncomputable abbrev N0 : Nat := (World.settled Tryz.prog default).heap.size
noncomputable abbrev wit (os : Os) (args : Array Value) : World := ((laidWorld os).forCall (fun _ _ => 0) ⟨#[], args, []⟩).memory
theorem piece0 (os : Os) (args : Array Value) : LaidIn Tryz.prog (wit os args) [("math/bits.deBruijn32tab", Rows.laid_math_bits_deBruijn32tab), ("math/bits.deBruijn64tab", Rows.laid_math_bits_deBruijn64tab), ("internal/strconv.uint64pow10", Rows.laid_internal_strconv_uint64pow10), ("unicode/utf8.acceptRanges", Rows.laid_unicode_utf8_acceptRanges)] [8, 9, 0, 2] :=
  LaidIn.of_run [8, 9, 0, 2] 8 (by kernel_rfl) (by kernel_rfl) (by kernel_rfl) (by kernel_rfl)
set_option maxRecDepth 1000000 in
theorem piece1 (os : Os) (args : Array Value) : LaidIn Tryz.prog (wit os args) [("strconv.isGraphic", sliceData .u16 gGraphic)] [7, N0] :=
  laidIn_slice (t := 336) (e := 303) (te := 303) gGraphic N0 (by kernel_rfl) (by kernel_rfl) (by kernel_rfl) (by kernel_rfl) (by kernel_rfl) (by kernel_rfl) (by kernel_rfl) (by kernel_rfl) (of_decide_eq_true (by kernel_rfl)) (of_decide_eq_true (by kernel_rfl))
set_option maxRecDepth 1000000 in
theorem piece2 (os : Os) (args : Array Value) : LaidIn Tryz.prog (wit os args) [("strconv.isNotPrint16", sliceData .u16 gN16)] [4, N0 + 1] :=
  laidIn_slice (t := 336) (e := 303) (te := 303) gN16 (N0 + 1) (by kernel_rfl) (by kernel_rfl) (by kernel_rfl) (by kernel_rfl) (by kernel_rfl) (by kernel_rfl) (by kernel_rfl) (by kernel_rfl) (of_decide_eq_true (by kernel_rfl)) (of_decide_eq_true (by kernel_rfl))
set_option maxRecDepth 1000000 in
theorem piece3 (os : Os) (args : Array Value) : LaidIn Tryz.prog (wit os args) [("strconv.isNotPrint32", sliceData .u16 gN32)] [6, N0 + 2] :=
  laidIn_slice (t := 336) (e := 303) (te := 303) gN32 (N0 + 2) (by kernel_rfl) (by kernel_rfl) (by kernel_rfl) (by kernel_rfl) (by kernel_rfl) (by kernel_rfl) (by kernel_rfl) (by kernel_rfl) (of_decide_eq_true (by kernel_rfl)) (of_decide_eq_true (by kernel_rfl))
set_option maxRecDepth 1000000 in
theorem piece4 (os : Os) (args : Array Value) : LaidIn Tryz.prog (wit os args) [("strconv.isPrint16", sliceData .u16 gP16)] [3, N0 + 3] :=
  laidIn_slice (t := 336) (e := 303) (te := 303) gP16 (N0 + 3) (by kernel_rfl) (by kernel_rfl) (by kernel_rfl) (by kernel_rfl) (by kernel_rfl) (by kernel_rfl) (by kernel_rfl) (by kernel_rfl) (of_decide_eq_true (by kernel_rfl)) (of_decide_eq_true (by kernel_rfl))
set_option maxRecDepth 1000000 in
theorem piece5 (os : Os) (args : Array Value) : LaidIn Tryz.prog (wit os args) [("strconv.isPrint32", sliceData .u32 gP32)] [5, N0 + 4] :=
  laidIn_slice (t := 338) (e := 225) (te := 225) gP32 (N0 + 4) (by kernel_rfl) (by kernel_rfl) (by kernel_rfl) (by kernel_rfl) (by kernel_rfl) (by kernel_rfl) (by kernel_rfl) (by kernel_rfl) (of_decide_eq_true (by kernel_rfl)) (of_decide_eq_true (by kernel_rfl))
theorem piece6 (os : Os) (args : Array Value) : LaidIn Tryz.prog (wit os args) [("unicode/utf8.first", Rows.laid_unicode_utf8_first)] [1] :=
  LaidIn.of_run [1] 8 (by kernel_rfl) (by kernel_rfl) (by kernel_rfl) (by kernel_rfl)
theorem laid_met (os : Os) (args : Array Value) : laidMet Tryz.prog Rows.fnSymbolsRow.laid (wit os args) := by
  have h := (((((((piece0 os args).append (piece1 os args) (by kernel_rfl)).append (piece2 os args) (by kernel_rfl)).append (piece3 os args) (by kernel_rfl)).append (piece4 os args) (by kernel_rfl)).append (piece5 os args) (by kernel_rfl)).append (piece6 os args) (by kernel_rfl)).met
  rw [← eqGraphic, ← eqN16, ← eqN32, ← eqP16, ← eqP32] at h
  exact h
end Go.Proofs.YtdejcdmgcckmoaaGreatDoor

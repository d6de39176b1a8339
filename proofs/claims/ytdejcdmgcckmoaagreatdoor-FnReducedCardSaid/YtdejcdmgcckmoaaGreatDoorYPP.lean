/- The table of powers of ten, off the row's condition. -/
import Derived.Test.YtdejcdmgcckmoaaGreatDoorYK
import Derived.Test.YtdejcdmgcckmoaaGreatDoorYFF
import Derived.Lib.LaidU8
import Derived.Lib.LaidTab
namespace Go.Proofs.YtdejcdmgcckmoaaGreatDoor
open Go.ChangeShapes Go.WideShapes Go.RowKit Lr

theorem pow10_data : (Rows.laid_internal_strconv_uint64pow10 : DataW Unit) = Lib.tabData .u64 Lib.pow10Tab := by kernel_rfl
/-- The table of powers of ten, off the row's own condition. -/
theorem tabW_of {l : List (String × DataW Unit)} {W : World} (hL : laidMet Tryz.prog l W) (hm : ("internal/strconv.uint64pow10", (Rows.laid_internal_strconv_uint64pow10 : DataW Unit)) ∈ l) : TabW W := by
  have hr := Lib.laidMet.reads hL hm
  rw [pow10_data] at hr
  obtain ⟨g', t', cs, fuel, p, hg', ht', hvar, hd⟩ := hr
  unfold TabW Lib.TabIs
  rw [hvar]
  have hg : Tryz.prog.globalNamed "internal/strconv.uint64pow10" = some 0 := by kernel_rfl
  obtain rfl := Option.some.inj (hg.symm.trans hg')
  have h1 : (Tryz.prog.globals[0]?).map (·.type) = some 328 := by kernel_rfl
  have h2 : Tryz.prog.underlying 328 = some (.array 20 227) := by kernel_rfl
  have h3 : Tryz.prog.underlying 227 = some (.int .u64) := by kernel_rfl
  have h4 : Tryz.prog.cellsOf 227 = 1 := by kernel_rfl
  have h5 : Tryz.prog.cellsOf 328 = 20 := by kernel_rfl
  obtain rfl := Option.some.inj (h1.symm.trans ht')
  rw [← Lib.cells_of_tab h2 h3 h4 h5 hd]
end Go.Proofs.YtdejcdmgcckmoaaGreatDoor

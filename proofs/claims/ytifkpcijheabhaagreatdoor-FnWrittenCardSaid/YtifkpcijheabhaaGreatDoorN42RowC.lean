/- The table of the powers of ten, from the rows' list. -/
import Derived.Test.YtifkpcijheabhaaGreatDoorM30RowB
import Derived.Test.YtifkpcijheabhaaGreatDoorN34Fmt6
import Derived.Lib.LaidTab
set_option linter.unusedSimpArgs false
set_option linter.unusedVariables false
namespace Go.Proofs.YtifkpcijheabhaaGreatDoor
open Go.ChangeShapes Go.WideShapes Go.ChangeAt Go.RowKit

theorem laid_pow10 : (Rows.laid_internal_strconv_uint64pow10 : DataW Unit) = Lib.tabData .u64 Lib.pow10Tab := by rfl
theorem pt_of_laid {W : World} (hL : laidMetH Tryz.prog Rows.fnCopiedRow.laid W) : PT W := by
  rw [MakeChecks.laidMetH_plain _ _ _ (by kernel_rfl)] at hL
  have h := hL.tail.tail
  rw [laid_pow10] at h
  exact Lib.tabIs_of_head (g := 14) (t := 257) (e := 120) (n := 20) (by kernel_rfl) (by kernel_rfl) Tryz.underlying257 Tryz.underlying120 (by kernel_rfl) (by kernel_rfl) h
end Go.Proofs.YtifkpcijheabhaaGreatDoor

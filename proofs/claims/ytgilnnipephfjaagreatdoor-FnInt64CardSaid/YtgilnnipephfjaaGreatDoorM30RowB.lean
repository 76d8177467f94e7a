/- The witness world: the listed variables laid. -/
import Derived.Test.YtgilnnipephfjaaGreatDoorM29RowA
set_option linter.unusedSimpArgs false
set_option linter.unusedVariables false
namespace Go.Proofs.YtgilnnipephfjaaGreatDoor
open Go.ChangeShapes Go.WideShapes Go.ChangeAt Go.RowKit

theorem own : ownKnob Tryz.prog.godebug = none := by kernel_rfl
noncomputable def laidW (os : Os) : World := World.laidAll Tryz.prog os Rows.fnDecomposeRow.laid
set_option maxRecDepth 100000 in
theorem laidW_shaped (os : Os) (args : Array Value) : ((laidW os).forCall (fun _ _ => 0) ⟨#[], args, []⟩).Shaped Tryz.prog := World.shaped_of_ZipB (by kernel_rfl) (by kernel_rfl)
set_option maxRecDepth 100000 in
theorem laidW_met (os : Os) (args : Array Value) : laidMetH Tryz.prog Rows.fnDecomposeRow.laid ((laidW os).forCall (fun _ _ => 0) ⟨#[], args, []⟩).memory := by
  rw [MakeChecks.laidMetH_plain _ _ _ (by kernel_rfl)]
  exact laidMet_laidAll _ (by kernel_rfl) (by kernel_rfl)
end Go.Proofs.YtgilnnipephfjaaGreatDoor

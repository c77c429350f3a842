/- Closed facts of the program, one by one, by the kernel. -/
import Derived.Test.YtgpfjlfkaoffeaaGreatDoorR26
set_option linter.all false
namespace Go.Proofs.YtgpfjlfkaoffeaaGreatDoor
open Go Go.Proofs.YtgpfjlfkaoffeaaGreatDoor Go.ChangeShapes Go.WideShapes Go.ChangeAt Go.WideMaps Go.WideElems Go.RowKit
theorem kp1 : (laidOutB Tryz.prog) = true := by kernel_rfl
theorem kp2 : (mapsRowed Tryz.prog) = true := by kernel_rfl
theorem kp6 : ((Tryz.prog.stops == [])) = true := by kernel_rfl
theorem kp8 : ((Tryz.prog.stopKnobs == [])) = true := by kernel_rfl
theorem kp24 : (Tryz.prog.stopsHeard) = true := by kernel_rfl
theorem kp25 : (Tryz.prog.mayEnter) = true := by kernel_rfl
theorem kp22 : ((Rows.fnParamsOrderRow.plainKeys == Tryz.prog.plainKeys)) = true := by kernel_rfl
theorem kp26 : ((Rows.fnParamsOrderRow.lifted == Tryz.prog.liftsFinal)) = true := by kernel_rfl
theorem kp27 : ((Tryz.prog.make == some Rows.fnParamsOrderRow.make)) = true := by kernel_rfl
theorem looks0 : true = Tryz.pinned.checked.prog.looks [] := by kernel_rfl
theorem stand_b : Tryz.prog.wantsStandIn 23 = false := by kernel_rfl
theorem stand_i : Tryz.prog.wantsStandIn 3 = false := by kernel_rfl
theorem stand_m : Tryz.prog.wantsStandIn 36 = false := by kernel_rfl
theorem stand_o : Tryz.prog.wantsStandIn 4 = false := by kernel_rfl
theorem stand_u : Tryz.prog.wantsStandIn 22 = false := by kernel_rfl
end Go.Proofs.YtgpfjlfkaoffeaaGreatDoor

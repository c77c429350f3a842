/- The row of the law FnParamsOrder: its closed facts, one by one, by the kernel. -/
import Derived.Test.YtgpfjlfkaoffeaaGreatDoorXW7
set_option linter.all false
namespace Go.Proofs.YtgpfjlfkaoffeaaGreatDoor
open Go Go.Proofs.YtgpfjlfkaoffeaaGreatDoor Go.ChangeShapes Go.WideShapes Go.ChangeAt Go.WideMaps Go.WideElems Go.RowKit
namespace FnParamsOrder
theorem k0 : (Rows.fnParamsOrderRow.wf (OpenSpec.ofChange Rows.fnParamsOrderSpec)) = true := by kernel_rfl
theorem k3 : (Tryz.f3.params.all (Tryz.prog.readableRec ·)) = true := by kernel_rfl
theorem k4 : (namedTie Tryz.prog Rows.fnParamsOrderRow.named Rows.fnParamsOrderSpec.vars) = true := by kernel_rfl
theorem k5 : ((Rows.fnParamsOrderRow.stops == [])) = true := by kernel_rfl
theorem k7 : ((Rows.fnParamsOrderRow.knobs == [])) = true := by kernel_rfl
theorem k9 : ((Rows.fnParamsOrderRow.inPlace == Tryz.prog.inPlace 3)) = true := by kernel_rfl
theorem k10 : ((Rows.fnParamsOrderRow.unfollowed == Tryz.prog.unfollowed 3)) = true := by kernel_rfl
theorem k11 : ((Rows.fnParamsOrderRow.recurses == Tryz.prog.recurses 3)) = true := by kernel_rfl
theorem k12 : ((Rows.fnParamsOrderRow.named == Tryz.prog.varsNamed 3)) = true := by kernel_rfl
theorem k13 : ((Rows.fnParamsOrderRow.maps == (Tryz.f3.params.toList ++ Rows.fnParamsOrderSpec.plain.varTypes Tryz.prog).any (Tryz.prog.mapsRec ·))) = true := by kernel_rfl
theorem k14 : ((Rows.fnParamsOrderRow.ifaces == (Tryz.f3.params.toList ++ Rows.fnParamsOrderSpec.plain.varTypes Tryz.prog).any (Tryz.prog.ifacesRec ·))) = true := by kernel_rfl
theorem k15 : ((Rows.fnParamsOrderRow.mapsOut == Tryz.prog.mapsAmong Tryz.f3.resultTypes.toList)) = true := by kernel_rfl
theorem k16 : ((Rows.fnParamsOrderRow.loops == (Tryz.f3.params.toList ++ Rows.fnParamsOrderSpec.plain.varTypes Tryz.prog).any (Tryz.prog.loopsFrom ·))) = true := by kernel_rfl
theorem k17 : ((Rows.fnParamsOrderRow.wideKeys == (Tryz.f3.params.toList ++ Rows.fnParamsOrderSpec.plain.varTypes Tryz.prog ++ Tryz.f3.resultTypes.toList).any (Tryz.prog.wideKeysFrom ·))) = true := by kernel_rfl
theorem k18 : (Rows.fnParamsOrderSpec.vars.all (Tryz.prog.varReadable ·)) = true := by kernel_rfl
theorem k19 : (Tryz.f3.resultTypes.all (fun t => Tryz.prog.readableRec t && decide (t < Tryz.prog.types.size))) = true := by kernel_rfl
theorem k20 : ((Rows.fnParamsOrderRow.ifacesOut == Tryz.f3.resultTypes.toList.any (Tryz.prog.ifacesRec ·))) = true := by kernel_rfl
theorem k21 : ((Rows.fnParamsOrderRow.loopsOut == Tryz.f3.resultTypes.toList.any (Tryz.prog.loopsFrom ·))) = true := by kernel_rfl
theorem k22 : ((Rows.fnParamsOrderRow.plainKeys == Tryz.prog.plainKeys)) = true := swap2 (rfl : Rows.fnParamsOrderRow.plainKeys = Rows.fnParamsOrderRow.plainKeys) kp22
theorem k23 : (Rows.fnParamsOrderRow.shortTexts.isNone) = true := by kernel_rfl
theorem k26 : ((Rows.fnParamsOrderRow.lifted == Tryz.prog.liftsFinal)) = true := swap2 (rfl : Rows.fnParamsOrderRow.lifted = Rows.fnParamsOrderRow.lifted) kp26
theorem k27 : ((Tryz.prog.make == some Rows.fnParamsOrderRow.make)) = true := kp27
theorem k28 : ((Rows.fnParamsOrderRow.kinds == (if Rows.fnParamsOrderRow.domain.isEmpty then [] else Tryz.f3.params.toList.map fun t => match Tryz.prog.underlying t with | some (.int k) => some k | _ => none))) = true := by kernel_rfl
theorem k29 : ((Rows.fnParamsOrderRow.pinned == Rows.fnParamsOrderRow.pinnedBy)) = true := by kernel_rfl
theorem k30 : ((Rows.fnParamsOrderRow.veiled == (Tryz.f3.params.toList ++ Rows.fnParamsOrderSpec.plain.varTypes Tryz.prog ++ Tryz.f3.resultTypes.toList).any (Tryz.prog.veiledRec ·))) = true := by kernel_rfl
theorem k31 : (Rows.fnParamsOrderRow.veiledFits Tryz.prog Tryz.f3.params.toList (Tryz.f3.params.toList ++ Rows.fnParamsOrderSpec.plain.varTypes Tryz.prog ++ Tryz.f3.resultTypes.toList)) = true := by kernel_rfl
set_option maxRecDepth 100000 in
theorem closed : joinedFacts Tryz.prog 3 Tryz.f3 Rows.fnParamsOrderSpec Rows.fnParamsOrderRow = true := joined_of k0 kp1 kp2 k3 k4 k5 kp6 k7 kp8 k9 k10 k11 k12 k13 k14 k15 k16 k17 k18 k19 k20 k21 k22 k23 kp24 kp25 k26 k27 k28 k29 k30 k31
theorem byText : Rows.fnParamsOrderRow.wfByText (OpenSpec.ofChange Rows.fnParamsOrderSpec) = true := by kernel_rfl
theorem goes : false = Rows.fnParamsOrderRow.goesBy Tryz.pinned.checked.prog := by kernel_rfl
end FnParamsOrder
end Go.Proofs.YtgpfjlfkaoffeaaGreatDoor

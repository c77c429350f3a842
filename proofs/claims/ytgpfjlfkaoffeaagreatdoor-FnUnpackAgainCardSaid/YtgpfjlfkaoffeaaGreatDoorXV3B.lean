/- The row of the law FnUnpackAgain: its closed facts, one by one, by the kernel. -/
import Derived.Test.YtgpfjlfkaoffeaaGreatDoorXW7
set_option linter.all false
namespace Go.Proofs.YtgpfjlfkaoffeaaGreatDoor
open Go Go.Proofs.YtgpfjlfkaoffeaaGreatDoor Go.ChangeShapes Go.WideShapes Go.ChangeAt Go.WideMaps Go.WideElems Go.RowKit
namespace FnUnpackAgain
theorem k0 : (Rows.fnUnpackAgainRow.wf (OpenSpec.ofChange Rows.fnUnpackAgainSpec)) = true := by kernel_rfl
theorem k3 : (Tryz.f5.params.all (Tryz.prog.readableRec ·)) = true := by kernel_rfl
theorem k4 : (namedTie Tryz.prog Rows.fnUnpackAgainRow.named Rows.fnUnpackAgainSpec.vars) = true := by kernel_rfl
theorem k5 : ((Rows.fnUnpackAgainRow.stops == [])) = true := by kernel_rfl
theorem k7 : ((Rows.fnUnpackAgainRow.knobs == [])) = true := by kernel_rfl
theorem k9 : ((Rows.fnUnpackAgainRow.inPlace == Tryz.prog.inPlace 5)) = true := by kernel_rfl
theorem k10 : ((Rows.fnUnpackAgainRow.unfollowed == Tryz.prog.unfollowed 5)) = true := by kernel_rfl
theorem k11 : ((Rows.fnUnpackAgainRow.recurses == Tryz.prog.recurses 5)) = true := by kernel_rfl
theorem k12 : ((Rows.fnUnpackAgainRow.named == Tryz.prog.varsNamed 5)) = true := by kernel_rfl
theorem k13 : ((Rows.fnUnpackAgainRow.maps == (Tryz.f5.params.toList ++ Rows.fnUnpackAgainSpec.plain.varTypes Tryz.prog).any (Tryz.prog.mapsRec ·))) = true := by kernel_rfl
theorem k14 : ((Rows.fnUnpackAgainRow.ifaces == (Tryz.f5.params.toList ++ Rows.fnUnpackAgainSpec.plain.varTypes Tryz.prog).any (Tryz.prog.ifacesRec ·))) = true := by kernel_rfl
theorem k15 : ((Rows.fnUnpackAgainRow.mapsOut == Tryz.prog.mapsAmong Tryz.f5.resultTypes.toList)) = true := by kernel_rfl
theorem k16 : ((Rows.fnUnpackAgainRow.loops == (Tryz.f5.params.toList ++ Rows.fnUnpackAgainSpec.plain.varTypes Tryz.prog).any (Tryz.prog.loopsFrom ·))) = true := by kernel_rfl
theorem k17 : ((Rows.fnUnpackAgainRow.wideKeys == (Tryz.f5.params.toList ++ Rows.fnUnpackAgainSpec.plain.varTypes Tryz.prog ++ Tryz.f5.resultTypes.toList).any (Tryz.prog.wideKeysFrom ·))) = true := by kernel_rfl
theorem k18 : (Rows.fnUnpackAgainSpec.vars.all (Tryz.prog.varReadable ·)) = true := by kernel_rfl
theorem k19 : (Tryz.f5.resultTypes.all (fun t => Tryz.prog.readableRec t && decide (t < Tryz.prog.types.size))) = true := by kernel_rfl
theorem k20 : ((Rows.fnUnpackAgainRow.ifacesOut == Tryz.f5.resultTypes.toList.any (Tryz.prog.ifacesRec ·))) = true := by kernel_rfl
theorem k21 : ((Rows.fnUnpackAgainRow.loopsOut == Tryz.f5.resultTypes.toList.any (Tryz.prog.loopsFrom ·))) = true := by kernel_rfl
theorem k22 : ((Rows.fnUnpackAgainRow.plainKeys == Tryz.prog.plainKeys)) = true := swap2 (rfl : Rows.fnUnpackAgainRow.plainKeys = Rows.fnParamsOrderRow.plainKeys) kp22
theorem k23 : (Rows.fnUnpackAgainRow.shortTexts.isNone) = true := by kernel_rfl
theorem k26 : ((Rows.fnUnpackAgainRow.lifted == Tryz.prog.liftsFinal)) = true := swap2 (rfl : Rows.fnUnpackAgainRow.lifted = Rows.fnParamsOrderRow.lifted) kp26
theorem k27 : ((Tryz.prog.make == some Rows.fnUnpackAgainRow.make)) = true := kp27
theorem k28 : ((Rows.fnUnpackAgainRow.kinds == (if Rows.fnUnpackAgainRow.domain.isEmpty then [] else Tryz.f5.params.toList.map fun t => match Tryz.prog.underlying t with | some (.int k) => some k | _ => none))) = true := by kernel_rfl
theorem k29 : ((Rows.fnUnpackAgainRow.pinned == Rows.fnUnpackAgainRow.pinnedBy)) = true := by kernel_rfl
theorem k30 : ((Rows.fnUnpackAgainRow.veiled == (Tryz.f5.params.toList ++ Rows.fnUnpackAgainSpec.plain.varTypes Tryz.prog ++ Tryz.f5.resultTypes.toList).any (Tryz.prog.veiledRec ·))) = true := by kernel_rfl
theorem k31 : (Rows.fnUnpackAgainRow.veiledFits Tryz.prog Tryz.f5.params.toList (Tryz.f5.params.toList ++ Rows.fnUnpackAgainSpec.plain.varTypes Tryz.prog ++ Tryz.f5.resultTypes.toList)) = true := by kernel_rfl
set_option maxRecDepth 100000 in
theorem closed : joinedFacts Tryz.prog 5 Tryz.f5 Rows.fnUnpackAgainSpec Rows.fnUnpackAgainRow = true := joined_of k0 kp1 kp2 k3 k4 k5 kp6 k7 kp8 k9 k10 k11 k12 k13 k14 k15 k16 k17 k18 k19 k20 k21 k22 k23 kp24 kp25 k26 k27 k28 k29 k30 k31
theorem byText : Rows.fnUnpackAgainRow.wfByText (OpenSpec.ofChange Rows.fnUnpackAgainSpec) = true := by kernel_rfl
theorem goes : false = Rows.fnUnpackAgainRow.goesBy Tryz.pinned.checked.prog := by kernel_rfl
end FnUnpackAgain
end Go.Proofs.YtgpfjlfkaoffeaaGreatDoor

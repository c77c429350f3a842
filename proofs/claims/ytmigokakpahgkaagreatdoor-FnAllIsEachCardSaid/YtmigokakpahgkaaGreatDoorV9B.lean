/- The row of the law FnAllIsEach: its closed facts, one by one, by the kernel. -/
import Derived.Test.YtmigokakpahgkaaGreatDoorG33
set_option linter.all false
namespace Go.Proofs.YtmigokakpahgkaaGreatDoor
open Go Go.Proofs.YtmigokakpahgkaaGreatDoor Go.ChangeShapes Go.WideShapes Go.ChangeAt Go.WideMaps Go.WideElems Go.RowKit
namespace FnAllIsEach
theorem k0 : (Rows.fnAllIsEachRow.wf (OpenSpec.ofChange Rows.fnAllIsEachSpec)) = true := by kernel_rfl
theorem k3 : (Tryz.f3.params.all (Tryz.prog.readableRec ·)) = true := by kernel_rfl
theorem k4 : (namedTie Tryz.prog Rows.fnAllIsEachRow.named Rows.fnAllIsEachSpec.vars) = true := by kernel_rfl
theorem k5 : ((Rows.fnAllIsEachRow.stops == [])) = true := by kernel_rfl
theorem k7 : ((Rows.fnAllIsEachRow.knobs == [])) = true := by kernel_rfl
theorem k9 : ((Rows.fnAllIsEachRow.inPlace == Tryz.prog.inPlace 3)) = true := by kernel_rfl
theorem k10 : ((Rows.fnAllIsEachRow.unfollowed == Tryz.prog.unfollowed 3)) = true := by kernel_rfl
theorem k11 : ((Rows.fnAllIsEachRow.recurses == Tryz.prog.recurses 3)) = true := by kernel_rfl
theorem k12 : ((Rows.fnAllIsEachRow.named == Tryz.prog.varsNamed 3)) = true := by kernel_rfl
theorem k13 : ((Rows.fnAllIsEachRow.maps == (Tryz.f3.params.toList ++ Rows.fnAllIsEachSpec.plain.varTypes Tryz.prog).any (Tryz.prog.mapsRec ·))) = true := by kernel_rfl
theorem k14 : ((Rows.fnAllIsEachRow.ifaces == (Tryz.f3.params.toList ++ Rows.fnAllIsEachSpec.plain.varTypes Tryz.prog).any (Tryz.prog.ifacesRec ·))) = true := by kernel_rfl
theorem k15 : ((Rows.fnAllIsEachRow.mapsOut == Tryz.prog.mapsAmong Tryz.f3.resultTypes.toList)) = true := by kernel_rfl
theorem k16 : ((Rows.fnAllIsEachRow.loops == (Tryz.f3.params.toList ++ Rows.fnAllIsEachSpec.plain.varTypes Tryz.prog).any (Tryz.prog.loopsFrom ·))) = true := by kernel_rfl
theorem k17 : ((Rows.fnAllIsEachRow.wideKeys == (Tryz.f3.params.toList ++ Rows.fnAllIsEachSpec.plain.varTypes Tryz.prog ++ Tryz.f3.resultTypes.toList).any (Tryz.prog.wideKeysFrom ·))) = true := by kernel_rfl
theorem k18 : (Rows.fnAllIsEachSpec.vars.all (Tryz.prog.varReadable ·)) = true := by kernel_rfl
theorem k19 : (Tryz.f3.resultTypes.all (fun t => Tryz.prog.readableRec t && decide (t < Tryz.prog.types.size))) = true := by kernel_rfl
theorem k20 : ((Rows.fnAllIsEachRow.ifacesOut == Tryz.f3.resultTypes.toList.any (Tryz.prog.ifacesRec ·))) = true := by kernel_rfl
theorem k21 : ((Rows.fnAllIsEachRow.loopsOut == Tryz.f3.resultTypes.toList.any (Tryz.prog.loopsFrom ·))) = true := by kernel_rfl
theorem k22 : ((Rows.fnAllIsEachRow.plainKeys == Tryz.prog.plainKeys)) = true := swap2 (rfl : Rows.fnAllIsEachRow.plainKeys = Rows.fnExactUnpackRow.plainKeys) kp22
theorem k23 : (Rows.fnAllIsEachRow.shortTexts.isNone) = true := by kernel_rfl
theorem k26 : ((Rows.fnAllIsEachRow.lifted == Tryz.prog.liftsFinal)) = true := swap2 (rfl : Rows.fnAllIsEachRow.lifted = Rows.fnExactUnpackRow.lifted) kp26
theorem k27 : ((Tryz.prog.make == some Rows.fnAllIsEachRow.make)) = true := kp27
theorem k28 : ((Rows.fnAllIsEachRow.kinds == (if Rows.fnAllIsEachRow.domain.isEmpty then [] else Tryz.f3.params.toList.map fun t => match Tryz.prog.underlying t with | some (.int k) => some k | _ => none))) = true := by kernel_rfl
theorem k29 : ((Rows.fnAllIsEachRow.pinned == Rows.fnAllIsEachRow.pinnedBy)) = true := by kernel_rfl
theorem k30 : ((Rows.fnAllIsEachRow.veiled == (Tryz.f3.params.toList ++ Rows.fnAllIsEachSpec.plain.varTypes Tryz.prog ++ Tryz.f3.resultTypes.toList).any (Tryz.prog.veiledRec ·))) = true := by kernel_rfl
theorem k31 : (Rows.fnAllIsEachRow.veiledFits Tryz.prog Tryz.f3.params.toList (Tryz.f3.params.toList ++ Rows.fnAllIsEachSpec.plain.varTypes Tryz.prog ++ Tryz.f3.resultTypes.toList)) = true := by kernel_rfl
set_option maxRecDepth 100000 in
theorem closed : joinedFacts Tryz.prog 3 Tryz.f3 Rows.fnAllIsEachSpec Rows.fnAllIsEachRow = true := joined_of k0 kp1 kp2 k3 k4 k5 kp6 k7 kp8 k9 k10 k11 k12 k13 k14 k15 k16 k17 k18 k19 k20 k21 k22 k23 kp24 kp25 k26 k27 k28 k29 k30 k31
theorem byText : Rows.fnAllIsEachRow.wfByText (OpenSpec.ofChange Rows.fnAllIsEachSpec) = true := by kernel_rfl
theorem goes : false = Rows.fnAllIsEachRow.goesBy Tryz.pinned.checked.prog := by kernel_rfl
end FnAllIsEach
end Go.Proofs.YtmigokakpahgkaaGreatDoor

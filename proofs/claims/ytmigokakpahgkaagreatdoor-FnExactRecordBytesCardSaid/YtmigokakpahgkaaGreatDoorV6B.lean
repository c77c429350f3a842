/- The row of the law FnExactRecordBytes: its closed facts, one by one, by the kernel. -/
import Derived.Test.YtmigokakpahgkaaGreatDoorG33
set_option linter.all false
namespace Go.Proofs.YtmigokakpahgkaaGreatDoor
open Go Go.Proofs.YtmigokakpahgkaaGreatDoor Go.ChangeShapes Go.WideShapes Go.ChangeAt Go.WideMaps Go.WideElems Go.RowKit
namespace FnExactRecordBytes
theorem k0 : (Rows.fnExactRecordBytesRow.wf (OpenSpec.ofChange Rows.fnExactRecordBytesSpec)) = true := by kernel_rfl
theorem k3 : (Tryz.f7.params.all (Tryz.prog.readableRec ·)) = true := by kernel_rfl
theorem k4 : (namedTie Tryz.prog Rows.fnExactRecordBytesRow.named Rows.fnExactRecordBytesSpec.vars) = true := by kernel_rfl
theorem k5 : ((Rows.fnExactRecordBytesRow.stops == [])) = true := by kernel_rfl
theorem k7 : ((Rows.fnExactRecordBytesRow.knobs == [])) = true := by kernel_rfl
theorem k9 : ((Rows.fnExactRecordBytesRow.inPlace == Tryz.prog.inPlace 7)) = true := by kernel_rfl
theorem k10 : ((Rows.fnExactRecordBytesRow.unfollowed == Tryz.prog.unfollowed 7)) = true := by kernel_rfl
theorem k11 : ((Rows.fnExactRecordBytesRow.recurses == Tryz.prog.recurses 7)) = true := by kernel_rfl
theorem k12 : ((Rows.fnExactRecordBytesRow.named == Tryz.prog.varsNamed 7)) = true := by kernel_rfl
theorem k13 : ((Rows.fnExactRecordBytesRow.maps == (Tryz.f7.params.toList ++ Rows.fnExactRecordBytesSpec.plain.varTypes Tryz.prog).any (Tryz.prog.mapsRec ·))) = true := by kernel_rfl
theorem k14 : ((Rows.fnExactRecordBytesRow.ifaces == (Tryz.f7.params.toList ++ Rows.fnExactRecordBytesSpec.plain.varTypes Tryz.prog).any (Tryz.prog.ifacesRec ·))) = true := by kernel_rfl
theorem k15 : ((Rows.fnExactRecordBytesRow.mapsOut == Tryz.prog.mapsAmong Tryz.f7.resultTypes.toList)) = true := by kernel_rfl
theorem k16 : ((Rows.fnExactRecordBytesRow.loops == (Tryz.f7.params.toList ++ Rows.fnExactRecordBytesSpec.plain.varTypes Tryz.prog).any (Tryz.prog.loopsFrom ·))) = true := by kernel_rfl
theorem k17 : ((Rows.fnExactRecordBytesRow.wideKeys == (Tryz.f7.params.toList ++ Rows.fnExactRecordBytesSpec.plain.varTypes Tryz.prog ++ Tryz.f7.resultTypes.toList).any (Tryz.prog.wideKeysFrom ·))) = true := by kernel_rfl
theorem k18 : (Rows.fnExactRecordBytesSpec.vars.all (Tryz.prog.varReadable ·)) = true := by kernel_rfl
theorem k19 : (Tryz.f7.resultTypes.all (fun t => Tryz.prog.readableRec t && decide (t < Tryz.prog.types.size))) = true := by kernel_rfl
theorem k20 : ((Rows.fnExactRecordBytesRow.ifacesOut == Tryz.f7.resultTypes.toList.any (Tryz.prog.ifacesRec ·))) = true := by kernel_rfl
theorem k21 : ((Rows.fnExactRecordBytesRow.loopsOut == Tryz.f7.resultTypes.toList.any (Tryz.prog.loopsFrom ·))) = true := by kernel_rfl
theorem k22 : ((Rows.fnExactRecordBytesRow.plainKeys == Tryz.prog.plainKeys)) = true := swap2 (rfl : Rows.fnExactRecordBytesRow.plainKeys = Rows.fnExactUnpackRow.plainKeys) kp22
theorem k23 : (Rows.fnExactRecordBytesRow.shortTexts.isNone) = true := by kernel_rfl
theorem k26 : ((Rows.fnExactRecordBytesRow.lifted == Tryz.prog.liftsFinal)) = true := swap2 (rfl : Rows.fnExactRecordBytesRow.lifted = Rows.fnExactUnpackRow.lifted) kp26
theorem k27 : ((Tryz.prog.make == some Rows.fnExactRecordBytesRow.make)) = true := kp27
theorem k28 : ((Rows.fnExactRecordBytesRow.kinds == (if Rows.fnExactRecordBytesRow.domain.isEmpty then [] else Tryz.f7.params.toList.map fun t => match Tryz.prog.underlying t with | some (.int k) => some k | _ => none))) = true := by kernel_rfl
theorem k29 : ((Rows.fnExactRecordBytesRow.pinned == Rows.fnExactRecordBytesRow.pinnedBy)) = true := by kernel_rfl
theorem k30 : ((Rows.fnExactRecordBytesRow.veiled == (Tryz.f7.params.toList ++ Rows.fnExactRecordBytesSpec.plain.varTypes Tryz.prog ++ Tryz.f7.resultTypes.toList).any (Tryz.prog.veiledRec ·))) = true := by kernel_rfl
theorem k31 : (Rows.fnExactRecordBytesRow.veiledFits Tryz.prog Tryz.f7.params.toList (Tryz.f7.params.toList ++ Rows.fnExactRecordBytesSpec.plain.varTypes Tryz.prog ++ Tryz.f7.resultTypes.toList)) = true := by kernel_rfl
set_option maxRecDepth 100000 in
theorem closed : joinedFacts Tryz.prog 7 Tryz.f7 Rows.fnExactRecordBytesSpec Rows.fnExactRecordBytesRow = true := joined_of k0 kp1 kp2 k3 k4 k5 kp6 k7 kp8 k9 k10 k11 k12 k13 k14 k15 k16 k17 k18 k19 k20 k21 k22 k23 kp24 kp25 k26 k27 k28 k29 k30 k31
theorem byText : Rows.fnExactRecordBytesRow.wfByText (OpenSpec.ofChange Rows.fnExactRecordBytesSpec) = true := by kernel_rfl
theorem goes : false = Rows.fnExactRecordBytesRow.goesBy Tryz.pinned.checked.prog := by kernel_rfl
end FnExactRecordBytes
end Go.Proofs.YtmigokakpahgkaaGreatDoor

/- The row of the law FnExactSkipBytes: its closed facts, one by one, by the kernel. -/
import Derived.Test.YtmigokakpahgkaaGreatDoorG33
set_option linter.all false
namespace Go.Proofs.YtmigokakpahgkaaGreatDoor
open Go Go.Proofs.YtmigokakpahgkaaGreatDoor Go.ChangeShapes Go.WideShapes Go.ChangeAt Go.WideMaps Go.WideElems Go.RowKit
namespace FnExactSkipBytes
theorem k0 : (Rows.fnExactSkipBytesRow.wf (OpenSpec.ofChange Rows.fnExactSkipBytesSpec)) = true := by kernel_rfl
theorem k3 : (Tryz.f8.params.all (Tryz.prog.readableRec ·)) = true := by kernel_rfl
theorem k4 : (namedTie Tryz.prog Rows.fnExactSkipBytesRow.named Rows.fnExactSkipBytesSpec.vars) = true := by kernel_rfl
theorem k5 : ((Rows.fnExactSkipBytesRow.stops == [])) = true := by kernel_rfl
theorem k7 : ((Rows.fnExactSkipBytesRow.knobs == [])) = true := by kernel_rfl
theorem k9 : ((Rows.fnExactSkipBytesRow.inPlace == Tryz.prog.inPlace 8)) = true := by kernel_rfl
theorem k10 : ((Rows.fnExactSkipBytesRow.unfollowed == Tryz.prog.unfollowed 8)) = true := by kernel_rfl
theorem k11 : ((Rows.fnExactSkipBytesRow.recurses == Tryz.prog.recurses 8)) = true := by kernel_rfl
theorem k12 : ((Rows.fnExactSkipBytesRow.named == Tryz.prog.varsNamed 8)) = true := by kernel_rfl
theorem k13 : ((Rows.fnExactSkipBytesRow.maps == (Tryz.f8.params.toList ++ Rows.fnExactSkipBytesSpec.plain.varTypes Tryz.prog).any (Tryz.prog.mapsRec ·))) = true := by kernel_rfl
theorem k14 : ((Rows.fnExactSkipBytesRow.ifaces == (Tryz.f8.params.toList ++ Rows.fnExactSkipBytesSpec.plain.varTypes Tryz.prog).any (Tryz.prog.ifacesRec ·))) = true := by kernel_rfl
theorem k15 : ((Rows.fnExactSkipBytesRow.mapsOut == Tryz.prog.mapsAmong Tryz.f8.resultTypes.toList)) = true := by kernel_rfl
theorem k16 : ((Rows.fnExactSkipBytesRow.loops == (Tryz.f8.params.toList ++ Rows.fnExactSkipBytesSpec.plain.varTypes Tryz.prog).any (Tryz.prog.loopsFrom ·))) = true := by kernel_rfl
theorem k17 : ((Rows.fnExactSkipBytesRow.wideKeys == (Tryz.f8.params.toList ++ Rows.fnExactSkipBytesSpec.plain.varTypes Tryz.prog ++ Tryz.f8.resultTypes.toList).any (Tryz.prog.wideKeysFrom ·))) = true := by kernel_rfl
theorem k18 : (Rows.fnExactSkipBytesSpec.vars.all (Tryz.prog.varReadable ·)) = true := by kernel_rfl
theorem k19 : (Tryz.f8.resultTypes.all (fun t => Tryz.prog.readableRec t && decide (t < Tryz.prog.types.size))) = true := by kernel_rfl
theorem k20 : ((Rows.fnExactSkipBytesRow.ifacesOut == Tryz.f8.resultTypes.toList.any (Tryz.prog.ifacesRec ·))) = true := by kernel_rfl
theorem k21 : ((Rows.fnExactSkipBytesRow.loopsOut == Tryz.f8.resultTypes.toList.any (Tryz.prog.loopsFrom ·))) = true := by kernel_rfl
theorem k22 : ((Rows.fnExactSkipBytesRow.plainKeys == Tryz.prog.plainKeys)) = true := swap2 (rfl : Rows.fnExactSkipBytesRow.plainKeys = Rows.fnExactUnpackRow.plainKeys) kp22
theorem k23 : (Rows.fnExactSkipBytesRow.shortTexts.isNone) = true := by kernel_rfl
theorem k26 : ((Rows.fnExactSkipBytesRow.lifted == Tryz.prog.liftsFinal)) = true := swap2 (rfl : Rows.fnExactSkipBytesRow.lifted = Rows.fnExactUnpackRow.lifted) kp26
theorem k27 : ((Tryz.prog.make == some Rows.fnExactSkipBytesRow.make)) = true := kp27
theorem k28 : ((Rows.fnExactSkipBytesRow.kinds == (if Rows.fnExactSkipBytesRow.domain.isEmpty then [] else Tryz.f8.params.toList.map fun t => match Tryz.prog.underlying t with | some (.int k) => some k | _ => none))) = true := by kernel_rfl
theorem k29 : ((Rows.fnExactSkipBytesRow.pinned == Rows.fnExactSkipBytesRow.pinnedBy)) = true := by kernel_rfl
theorem k30 : ((Rows.fnExactSkipBytesRow.veiled == (Tryz.f8.params.toList ++ Rows.fnExactSkipBytesSpec.plain.varTypes Tryz.prog ++ Tryz.f8.resultTypes.toList).any (Tryz.prog.veiledRec ·))) = true := by kernel_rfl
theorem k31 : (Rows.fnExactSkipBytesRow.veiledFits Tryz.prog Tryz.f8.params.toList (Tryz.f8.params.toList ++ Rows.fnExactSkipBytesSpec.plain.varTypes Tryz.prog ++ Tryz.f8.resultTypes.toList)) = true := by kernel_rfl
set_option maxRecDepth 100000 in
theorem closed : joinedFacts Tryz.prog 8 Tryz.f8 Rows.fnExactSkipBytesSpec Rows.fnExactSkipBytesRow = true := joined_of k0 kp1 kp2 k3 k4 k5 kp6 k7 kp8 k9 k10 k11 k12 k13 k14 k15 k16 k17 k18 k19 k20 k21 k22 k23 kp24 kp25 k26 k27 k28 k29 k30 k31
theorem byText : Rows.fnExactSkipBytesRow.wfByText (OpenSpec.ofChange Rows.fnExactSkipBytesSpec) = true := by kernel_rfl
theorem goes : false = Rows.fnExactSkipBytesRow.goesBy Tryz.pinned.checked.prog := by kernel_rfl
end FnExactSkipBytes
end Go.Proofs.YtmigokakpahgkaaGreatDoor

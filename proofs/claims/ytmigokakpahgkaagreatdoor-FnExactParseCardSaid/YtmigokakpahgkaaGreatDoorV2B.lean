/- The row of the law FnExactParse: its closed facts, one by one, by the kernel. -/
import Derived.Test.YtmigokakpahgkaaGreatDoorG33
set_option linter.all false
namespace Go.Proofs.YtmigokakpahgkaaGreatDoor
open Go Go.Proofs.YtmigokakpahgkaaGreatDoor Go.ChangeShapes Go.WideShapes Go.ChangeAt Go.WideMaps Go.WideElems Go.RowKit
namespace FnExactParse
theorem k0 : (Rows.fnExactParseRow.wf (OpenSpec.ofChange Rows.fnExactParseSpec)) = true := by kernel_rfl
theorem k3 : (Tryz.f6.params.all (Tryz.prog.readableRec ·)) = true := by kernel_rfl
theorem k4 : (namedTie Tryz.prog Rows.fnExactParseRow.named Rows.fnExactParseSpec.vars) = true := by kernel_rfl
theorem k5 : ((Rows.fnExactParseRow.stops == [])) = true := by kernel_rfl
theorem k7 : ((Rows.fnExactParseRow.knobs == [])) = true := by kernel_rfl
theorem k9 : ((Rows.fnExactParseRow.inPlace == Tryz.prog.inPlace 6)) = true := by kernel_rfl
theorem k10 : ((Rows.fnExactParseRow.unfollowed == Tryz.prog.unfollowed 6)) = true := by kernel_rfl
theorem k11 : ((Rows.fnExactParseRow.recurses == Tryz.prog.recurses 6)) = true := by kernel_rfl
theorem k12 : ((Rows.fnExactParseRow.named == Tryz.prog.varsNamed 6)) = true := by kernel_rfl
theorem k13 : ((Rows.fnExactParseRow.maps == (Tryz.f6.params.toList ++ Rows.fnExactParseSpec.plain.varTypes Tryz.prog).any (Tryz.prog.mapsRec ·))) = true := by kernel_rfl
theorem k14 : ((Rows.fnExactParseRow.ifaces == (Tryz.f6.params.toList ++ Rows.fnExactParseSpec.plain.varTypes Tryz.prog).any (Tryz.prog.ifacesRec ·))) = true := by kernel_rfl
theorem k15 : ((Rows.fnExactParseRow.mapsOut == Tryz.prog.mapsAmong Tryz.f6.resultTypes.toList)) = true := by kernel_rfl
theorem k16 : ((Rows.fnExactParseRow.loops == (Tryz.f6.params.toList ++ Rows.fnExactParseSpec.plain.varTypes Tryz.prog).any (Tryz.prog.loopsFrom ·))) = true := by kernel_rfl
theorem k17 : ((Rows.fnExactParseRow.wideKeys == (Tryz.f6.params.toList ++ Rows.fnExactParseSpec.plain.varTypes Tryz.prog ++ Tryz.f6.resultTypes.toList).any (Tryz.prog.wideKeysFrom ·))) = true := by kernel_rfl
theorem k18 : (Rows.fnExactParseSpec.vars.all (Tryz.prog.varReadable ·)) = true := by kernel_rfl
theorem k19 : (Tryz.f6.resultTypes.all (fun t => Tryz.prog.readableRec t && decide (t < Tryz.prog.types.size))) = true := by kernel_rfl
theorem k20 : ((Rows.fnExactParseRow.ifacesOut == Tryz.f6.resultTypes.toList.any (Tryz.prog.ifacesRec ·))) = true := by kernel_rfl
theorem k21 : ((Rows.fnExactParseRow.loopsOut == Tryz.f6.resultTypes.toList.any (Tryz.prog.loopsFrom ·))) = true := by kernel_rfl
theorem k22 : ((Rows.fnExactParseRow.plainKeys == Tryz.prog.plainKeys)) = true := swap2 (rfl : Rows.fnExactParseRow.plainKeys = Rows.fnExactUnpackRow.plainKeys) kp22
theorem k23 : (Rows.fnExactParseRow.shortTexts.isNone) = true := by kernel_rfl
theorem k26 : ((Rows.fnExactParseRow.lifted == Tryz.prog.liftsFinal)) = true := swap2 (rfl : Rows.fnExactParseRow.lifted = Rows.fnExactUnpackRow.lifted) kp26
theorem k27 : ((Tryz.prog.make == some Rows.fnExactParseRow.make)) = true := kp27
theorem k28 : ((Rows.fnExactParseRow.kinds == (if Rows.fnExactParseRow.domain.isEmpty then [] else Tryz.f6.params.toList.map fun t => match Tryz.prog.underlying t with | some (.int k) => some k | _ => none))) = true := by kernel_rfl
theorem k29 : ((Rows.fnExactParseRow.pinned == Rows.fnExactParseRow.pinnedBy)) = true := by kernel_rfl
theorem k30 : ((Rows.fnExactParseRow.veiled == (Tryz.f6.params.toList ++ Rows.fnExactParseSpec.plain.varTypes Tryz.prog ++ Tryz.f6.resultTypes.toList).any (Tryz.prog.veiledRec ·))) = true := by kernel_rfl
theorem k31 : (Rows.fnExactParseRow.veiledFits Tryz.prog Tryz.f6.params.toList (Tryz.f6.params.toList ++ Rows.fnExactParseSpec.plain.varTypes Tryz.prog ++ Tryz.f6.resultTypes.toList)) = true := by kernel_rfl
set_option maxRecDepth 100000 in
theorem closed : joinedFacts Tryz.prog 6 Tryz.f6 Rows.fnExactParseSpec Rows.fnExactParseRow = true := joined_of k0 kp1 kp2 k3 k4 k5 kp6 k7 kp8 k9 k10 k11 k12 k13 k14 k15 k16 k17 k18 k19 k20 k21 k22 k23 kp24 kp25 k26 k27 k28 k29 k30 k31
theorem byText : Rows.fnExactParseRow.wfByText (OpenSpec.ofChange Rows.fnExactParseSpec) = true := by kernel_rfl
theorem goes : false = Rows.fnExactParseRow.goesBy Tryz.pinned.checked.prog := by kernel_rfl
end FnExactParse
end Go.Proofs.YtmigokakpahgkaaGreatDoor

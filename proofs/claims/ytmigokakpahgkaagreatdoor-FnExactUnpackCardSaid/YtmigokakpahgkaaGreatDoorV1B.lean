/- The row of the law FnExactUnpack: its closed facts, one by one, by the kernel. -/
import Derived.Test.YtmigokakpahgkaaGreatDoorG33
set_option linter.all false
namespace Go.Proofs.YtmigokakpahgkaaGreatDoor
open Go Go.Proofs.YtmigokakpahgkaaGreatDoor Go.ChangeShapes Go.WideShapes Go.ChangeAt Go.WideMaps Go.WideElems Go.RowKit
namespace FnExactUnpack
theorem k0 : (Rows.fnExactUnpackRow.wf (OpenSpec.ofChange Rows.fnExactUnpackSpec)) = true := by kernel_rfl
theorem k3 : (Tryz.f9.params.all (Tryz.prog.readableRec ·)) = true := by kernel_rfl
theorem k4 : (namedTie Tryz.prog Rows.fnExactUnpackRow.named Rows.fnExactUnpackSpec.vars) = true := by kernel_rfl
theorem k5 : ((Rows.fnExactUnpackRow.stops == [])) = true := by kernel_rfl
theorem k7 : ((Rows.fnExactUnpackRow.knobs == [])) = true := by kernel_rfl
theorem k9 : ((Rows.fnExactUnpackRow.inPlace == Tryz.prog.inPlace 9)) = true := by kernel_rfl
theorem k10 : ((Rows.fnExactUnpackRow.unfollowed == Tryz.prog.unfollowed 9)) = true := by kernel_rfl
theorem k11 : ((Rows.fnExactUnpackRow.recurses == Tryz.prog.recurses 9)) = true := by kernel_rfl
theorem k12 : ((Rows.fnExactUnpackRow.named == Tryz.prog.varsNamed 9)) = true := by kernel_rfl
theorem k13 : ((Rows.fnExactUnpackRow.maps == (Tryz.f9.params.toList ++ Rows.fnExactUnpackSpec.plain.varTypes Tryz.prog).any (Tryz.prog.mapsRec ·))) = true := by kernel_rfl
theorem k14 : ((Rows.fnExactUnpackRow.ifaces == (Tryz.f9.params.toList ++ Rows.fnExactUnpackSpec.plain.varTypes Tryz.prog).any (Tryz.prog.ifacesRec ·))) = true := by kernel_rfl
theorem k15 : ((Rows.fnExactUnpackRow.mapsOut == Tryz.prog.mapsAmong Tryz.f9.resultTypes.toList)) = true := by kernel_rfl
theorem k16 : ((Rows.fnExactUnpackRow.loops == (Tryz.f9.params.toList ++ Rows.fnExactUnpackSpec.plain.varTypes Tryz.prog).any (Tryz.prog.loopsFrom ·))) = true := by kernel_rfl
theorem k17 : ((Rows.fnExactUnpackRow.wideKeys == (Tryz.f9.params.toList ++ Rows.fnExactUnpackSpec.plain.varTypes Tryz.prog ++ Tryz.f9.resultTypes.toList).any (Tryz.prog.wideKeysFrom ·))) = true := by kernel_rfl
theorem k18 : (Rows.fnExactUnpackSpec.vars.all (Tryz.prog.varReadable ·)) = true := by kernel_rfl
theorem k19 : (Tryz.f9.resultTypes.all (fun t => Tryz.prog.readableRec t && decide (t < Tryz.prog.types.size))) = true := by kernel_rfl
theorem k20 : ((Rows.fnExactUnpackRow.ifacesOut == Tryz.f9.resultTypes.toList.any (Tryz.prog.ifacesRec ·))) = true := by kernel_rfl
theorem k21 : ((Rows.fnExactUnpackRow.loopsOut == Tryz.f9.resultTypes.toList.any (Tryz.prog.loopsFrom ·))) = true := by kernel_rfl
theorem k22 : ((Rows.fnExactUnpackRow.plainKeys == Tryz.prog.plainKeys)) = true := swap2 (rfl : Rows.fnExactUnpackRow.plainKeys = Rows.fnExactUnpackRow.plainKeys) kp22
theorem k23 : (Rows.fnExactUnpackRow.shortTexts.isNone) = true := by kernel_rfl
theorem k26 : ((Rows.fnExactUnpackRow.lifted == Tryz.prog.liftsFinal)) = true := swap2 (rfl : Rows.fnExactUnpackRow.lifted = Rows.fnExactUnpackRow.lifted) kp26
theorem k27 : ((Tryz.prog.make == some Rows.fnExactUnpackRow.make)) = true := kp27
theorem k28 : ((Rows.fnExactUnpackRow.kinds == (if Rows.fnExactUnpackRow.domain.isEmpty then [] else Tryz.f9.params.toList.map fun t => match Tryz.prog.underlying t with | some (.int k) => some k | _ => none))) = true := by kernel_rfl
theorem k29 : ((Rows.fnExactUnpackRow.pinned == Rows.fnExactUnpackRow.pinnedBy)) = true := by kernel_rfl
theorem k30 : ((Rows.fnExactUnpackRow.veiled == (Tryz.f9.params.toList ++ Rows.fnExactUnpackSpec.plain.varTypes Tryz.prog ++ Tryz.f9.resultTypes.toList).any (Tryz.prog.veiledRec ·))) = true := by kernel_rfl
theorem k31 : (Rows.fnExactUnpackRow.veiledFits Tryz.prog Tryz.f9.params.toList (Tryz.f9.params.toList ++ Rows.fnExactUnpackSpec.plain.varTypes Tryz.prog ++ Tryz.f9.resultTypes.toList)) = true := by kernel_rfl
set_option maxRecDepth 100000 in
theorem closed : joinedFacts Tryz.prog 9 Tryz.f9 Rows.fnExactUnpackSpec Rows.fnExactUnpackRow = true := joined_of k0 kp1 kp2 k3 k4 k5 kp6 k7 kp8 k9 k10 k11 k12 k13 k14 k15 k16 k17 k18 k19 k20 k21 k22 k23 kp24 kp25 k26 k27 k28 k29 k30 k31
theorem byText : Rows.fnExactUnpackRow.wfByText (OpenSpec.ofChange Rows.fnExactUnpackSpec) = true := by kernel_rfl
theorem goes : false = Rows.fnExactUnpackRow.goesBy Tryz.pinned.checked.prog := by kernel_rfl
end FnExactUnpack
end Go.Proofs.YtmigokakpahgkaaGreatDoor

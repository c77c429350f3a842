/- The row of the law FnExactNameBytes: its closed facts, one by one, by the kernel. -/
import Derived.Test.YtmigokakpahgkaaGreatDoorG33
set_option linter.all false
namespace Go.Proofs.YtmigokakpahgkaaGreatDoor
open Go Go.Proofs.YtmigokakpahgkaaGreatDoor Go.ChangeShapes Go.WideShapes Go.ChangeAt Go.WideMaps Go.WideElems Go.RowKit
namespace FnExactNameBytes
theorem k0 : (Rows.fnExactNameBytesRow.wf (OpenSpec.ofChange Rows.fnExactNameBytesSpec)) = true := by kernel_rfl
theorem k3 : (Tryz.f5.params.all (Tryz.prog.readableRec ·)) = true := by kernel_rfl
theorem k4 : (namedTie Tryz.prog Rows.fnExactNameBytesRow.named Rows.fnExactNameBytesSpec.vars) = true := by kernel_rfl
theorem k5 : ((Rows.fnExactNameBytesRow.stops == [])) = true := by kernel_rfl
theorem k7 : ((Rows.fnExactNameBytesRow.knobs == [])) = true := by kernel_rfl
theorem k9 : ((Rows.fnExactNameBytesRow.inPlace == Tryz.prog.inPlace 5)) = true := by kernel_rfl
theorem k10 : ((Rows.fnExactNameBytesRow.unfollowed == Tryz.prog.unfollowed 5)) = true := by kernel_rfl
theorem k11 : ((Rows.fnExactNameBytesRow.recurses == Tryz.prog.recurses 5)) = true := by kernel_rfl
theorem k12 : ((Rows.fnExactNameBytesRow.named == Tryz.prog.varsNamed 5)) = true := by kernel_rfl
theorem k13 : ((Rows.fnExactNameBytesRow.maps == (Tryz.f5.params.toList ++ Rows.fnExactNameBytesSpec.plain.varTypes Tryz.prog).any (Tryz.prog.mapsRec ·))) = true := by kernel_rfl
theorem k14 : ((Rows.fnExactNameBytesRow.ifaces == (Tryz.f5.params.toList ++ Rows.fnExactNameBytesSpec.plain.varTypes Tryz.prog).any (Tryz.prog.ifacesRec ·))) = true := by kernel_rfl
theorem k15 : ((Rows.fnExactNameBytesRow.mapsOut == Tryz.prog.mapsAmong Tryz.f5.resultTypes.toList)) = true := by kernel_rfl
theorem k16 : ((Rows.fnExactNameBytesRow.loops == (Tryz.f5.params.toList ++ Rows.fnExactNameBytesSpec.plain.varTypes Tryz.prog).any (Tryz.prog.loopsFrom ·))) = true := by kernel_rfl
theorem k17 : ((Rows.fnExactNameBytesRow.wideKeys == (Tryz.f5.params.toList ++ Rows.fnExactNameBytesSpec.plain.varTypes Tryz.prog ++ Tryz.f5.resultTypes.toList).any (Tryz.prog.wideKeysFrom ·))) = true := by kernel_rfl
theorem k18 : (Rows.fnExactNameBytesSpec.vars.all (Tryz.prog.varReadable ·)) = true := by kernel_rfl
theorem k19 : (Tryz.f5.resultTypes.all (fun t => Tryz.prog.readableRec t && decide (t < Tryz.prog.types.size))) = true := by kernel_rfl
theorem k20 : ((Rows.fnExactNameBytesRow.ifacesOut == Tryz.f5.resultTypes.toList.any (Tryz.prog.ifacesRec ·))) = true := by kernel_rfl
theorem k21 : ((Rows.fnExactNameBytesRow.loopsOut == Tryz.f5.resultTypes.toList.any (Tryz.prog.loopsFrom ·))) = true := by kernel_rfl
theorem k22 : ((Rows.fnExactNameBytesRow.plainKeys == Tryz.prog.plainKeys)) = true := swap2 (rfl : Rows.fnExactNameBytesRow.plainKeys = Rows.fnExactUnpackRow.plainKeys) kp22
theorem k23 : (Rows.fnExactNameBytesRow.shortTexts.isNone) = true := by kernel_rfl
theorem k26 : ((Rows.fnExactNameBytesRow.lifted == Tryz.prog.liftsFinal)) = true := swap2 (rfl : Rows.fnExactNameBytesRow.lifted = Rows.fnExactUnpackRow.lifted) kp26
theorem k27 : ((Tryz.prog.make == some Rows.fnExactNameBytesRow.make)) = true := kp27
theorem k28 : ((Rows.fnExactNameBytesRow.kinds == (if Rows.fnExactNameBytesRow.domain.isEmpty then [] else Tryz.f5.params.toList.map fun t => match Tryz.prog.underlying t with | some (.int k) => some k | _ => none))) = true := by kernel_rfl
theorem k29 : ((Rows.fnExactNameBytesRow.pinned == Rows.fnExactNameBytesRow.pinnedBy)) = true := by kernel_rfl
theorem k30 : ((Rows.fnExactNameBytesRow.veiled == (Tryz.f5.params.toList ++ Rows.fnExactNameBytesSpec.plain.varTypes Tryz.prog ++ Tryz.f5.resultTypes.toList).any (Tryz.prog.veiledRec ·))) = true := by kernel_rfl
theorem k31 : (Rows.fnExactNameBytesRow.veiledFits Tryz.prog Tryz.f5.params.toList (Tryz.f5.params.toList ++ Rows.fnExactNameBytesSpec.plain.varTypes Tryz.prog ++ Tryz.f5.resultTypes.toList)) = true := by kernel_rfl
set_option maxRecDepth 100000 in
theorem closed : joinedFacts Tryz.prog 5 Tryz.f5 Rows.fnExactNameBytesSpec Rows.fnExactNameBytesRow = true := joined_of k0 kp1 kp2 k3 k4 k5 kp6 k7 kp8 k9 k10 k11 k12 k13 k14 k15 k16 k17 k18 k19 k20 k21 k22 k23 kp24 kp25 k26 k27 k28 k29 k30 k31
theorem byText : Rows.fnExactNameBytesRow.wfByText (OpenSpec.ofChange Rows.fnExactNameBytesSpec) = true := by kernel_rfl
theorem goes : false = Rows.fnExactNameBytesRow.goesBy Tryz.pinned.checked.prog := by kernel_rfl
end FnExactNameBytes
end Go.Proofs.YtmigokakpahgkaaGreatDoor

/- The row of the law FnExactBodyBytes: its closed facts, one by one, by the kernel. -/
import Derived.Test.YtmigokakpahgkaaGreatDoorG33
set_option linter.all false
namespace Go.Proofs.YtmigokakpahgkaaGreatDoor
open Go Go.Proofs.YtmigokakpahgkaaGreatDoor Go.ChangeShapes Go.WideShapes Go.ChangeAt Go.WideMaps Go.WideElems Go.RowKit
namespace FnExactBodyBytes
theorem k0 : (Rows.fnExactBodyBytesRow.wf (OpenSpec.ofChange Rows.fnExactBodyBytesSpec)) = true := by kernel_rfl
theorem k3 : (Tryz.f4.params.all (Tryz.prog.readableRec ·)) = true := by kernel_rfl
theorem k4 : (namedTie Tryz.prog Rows.fnExactBodyBytesRow.named Rows.fnExactBodyBytesSpec.vars) = true := by kernel_rfl
theorem k5 : ((Rows.fnExactBodyBytesRow.stops == [])) = true := by kernel_rfl
theorem k7 : ((Rows.fnExactBodyBytesRow.knobs == [])) = true := by kernel_rfl
theorem k9 : ((Rows.fnExactBodyBytesRow.inPlace == Tryz.prog.inPlace 4)) = true := by kernel_rfl
theorem k10 : ((Rows.fnExactBodyBytesRow.unfollowed == Tryz.prog.unfollowed 4)) = true := by kernel_rfl
theorem k11 : ((Rows.fnExactBodyBytesRow.recurses == Tryz.prog.recurses 4)) = true := by kernel_rfl
theorem k12 : ((Rows.fnExactBodyBytesRow.named == Tryz.prog.varsNamed 4)) = true := by kernel_rfl
theorem k13 : ((Rows.fnExactBodyBytesRow.maps == (Tryz.f4.params.toList ++ Rows.fnExactBodyBytesSpec.plain.varTypes Tryz.prog).any (Tryz.prog.mapsRec ·))) = true := by kernel_rfl
theorem k14 : ((Rows.fnExactBodyBytesRow.ifaces == (Tryz.f4.params.toList ++ Rows.fnExactBodyBytesSpec.plain.varTypes Tryz.prog).any (Tryz.prog.ifacesRec ·))) = true := by kernel_rfl
theorem k15 : ((Rows.fnExactBodyBytesRow.mapsOut == Tryz.prog.mapsAmong Tryz.f4.resultTypes.toList)) = true := by kernel_rfl
theorem k16 : ((Rows.fnExactBodyBytesRow.loops == (Tryz.f4.params.toList ++ Rows.fnExactBodyBytesSpec.plain.varTypes Tryz.prog).any (Tryz.prog.loopsFrom ·))) = true := by kernel_rfl
theorem k17 : ((Rows.fnExactBodyBytesRow.wideKeys == (Tryz.f4.params.toList ++ Rows.fnExactBodyBytesSpec.plain.varTypes Tryz.prog ++ Tryz.f4.resultTypes.toList).any (Tryz.prog.wideKeysFrom ·))) = true := by kernel_rfl
theorem k18 : (Rows.fnExactBodyBytesSpec.vars.all (Tryz.prog.varReadable ·)) = true := by kernel_rfl
theorem k19 : (Tryz.f4.resultTypes.all (fun t => Tryz.prog.readableRec t && decide (t < Tryz.prog.types.size))) = true := by kernel_rfl
theorem k20 : ((Rows.fnExactBodyBytesRow.ifacesOut == Tryz.f4.resultTypes.toList.any (Tryz.prog.ifacesRec ·))) = true := by kernel_rfl
theorem k21 : ((Rows.fnExactBodyBytesRow.loopsOut == Tryz.f4.resultTypes.toList.any (Tryz.prog.loopsFrom ·))) = true := by kernel_rfl
theorem k22 : ((Rows.fnExactBodyBytesRow.plainKeys == Tryz.prog.plainKeys)) = true := swap2 (rfl : Rows.fnExactBodyBytesRow.plainKeys = Rows.fnExactUnpackRow.plainKeys) kp22
theorem k23 : (Rows.fnExactBodyBytesRow.shortTexts.isNone) = true := by kernel_rfl
theorem k26 : ((Rows.fnExactBodyBytesRow.lifted == Tryz.prog.liftsFinal)) = true := swap2 (rfl : Rows.fnExactBodyBytesRow.lifted = Rows.fnExactUnpackRow.lifted) kp26
theorem k27 : ((Tryz.prog.make == some Rows.fnExactBodyBytesRow.make)) = true := kp27
theorem k28 : ((Rows.fnExactBodyBytesRow.kinds == (if Rows.fnExactBodyBytesRow.domain.isEmpty then [] else Tryz.f4.params.toList.map fun t => match Tryz.prog.underlying t with | some (.int k) => some k | _ => none))) = true := by kernel_rfl
theorem k29 : ((Rows.fnExactBodyBytesRow.pinned == Rows.fnExactBodyBytesRow.pinnedBy)) = true := by kernel_rfl
theorem k30 : ((Rows.fnExactBodyBytesRow.veiled == (Tryz.f4.params.toList ++ Rows.fnExactBodyBytesSpec.plain.varTypes Tryz.prog ++ Tryz.f4.resultTypes.toList).any (Tryz.prog.veiledRec ·))) = true := by kernel_rfl
theorem k31 : (Rows.fnExactBodyBytesRow.veiledFits Tryz.prog Tryz.f4.params.toList (Tryz.f4.params.toList ++ Rows.fnExactBodyBytesSpec.plain.varTypes Tryz.prog ++ Tryz.f4.resultTypes.toList)) = true := by kernel_rfl
set_option maxRecDepth 100000 in
theorem closed : joinedFacts Tryz.prog 4 Tryz.f4 Rows.fnExactBodyBytesSpec Rows.fnExactBodyBytesRow = true := joined_of k0 kp1 kp2 k3 k4 k5 kp6 k7 kp8 k9 k10 k11 k12 k13 k14 k15 k16 k17 k18 k19 k20 k21 k22 k23 kp24 kp25 k26 k27 k28 k29 k30 k31
theorem byText : Rows.fnExactBodyBytesRow.wfByText (OpenSpec.ofChange Rows.fnExactBodyBytesSpec) = true := by kernel_rfl
theorem goes : false = Rows.fnExactBodyBytesRow.goesBy Tryz.pinned.checked.prog := by kernel_rfl
end FnExactBodyBytes
end Go.Proofs.YtmigokakpahgkaaGreatDoor

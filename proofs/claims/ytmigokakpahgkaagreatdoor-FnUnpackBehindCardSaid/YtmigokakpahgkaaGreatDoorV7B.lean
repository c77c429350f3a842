/- The row of the law FnUnpackBehind: its closed facts, one by one, by the kernel. -/
import Derived.Test.YtmigokakpahgkaaGreatDoorG33
set_option linter.all false
namespace Go.Proofs.YtmigokakpahgkaaGreatDoor
open Go Go.Proofs.YtmigokakpahgkaaGreatDoor Go.ChangeShapes Go.WideShapes Go.ChangeAt Go.WideMaps Go.WideElems Go.RowKit
namespace FnUnpackBehind
theorem k0 : (Rows.fnUnpackBehindRow.wf (OpenSpec.ofChange Rows.fnUnpackBehindSpec)) = true := by kernel_rfl
theorem k3 : (Tryz.f10.params.all (Tryz.prog.readableRec ·)) = true := by kernel_rfl
theorem k4 : (namedTie Tryz.prog Rows.fnUnpackBehindRow.named Rows.fnUnpackBehindSpec.vars) = true := by kernel_rfl
theorem k5 : ((Rows.fnUnpackBehindRow.stops == [])) = true := by kernel_rfl
theorem k7 : ((Rows.fnUnpackBehindRow.knobs == [])) = true := by kernel_rfl
theorem k9 : ((Rows.fnUnpackBehindRow.inPlace == Tryz.prog.inPlace 10)) = true := by kernel_rfl
theorem k10 : ((Rows.fnUnpackBehindRow.unfollowed == Tryz.prog.unfollowed 10)) = true := by kernel_rfl
theorem k11 : ((Rows.fnUnpackBehindRow.recurses == Tryz.prog.recurses 10)) = true := by kernel_rfl
theorem k12 : ((Rows.fnUnpackBehindRow.named == Tryz.prog.varsNamed 10)) = true := by kernel_rfl
theorem k13 : ((Rows.fnUnpackBehindRow.maps == (Tryz.f10.params.toList ++ Rows.fnUnpackBehindSpec.plain.varTypes Tryz.prog).any (Tryz.prog.mapsRec ·))) = true := by kernel_rfl
theorem k14 : ((Rows.fnUnpackBehindRow.ifaces == (Tryz.f10.params.toList ++ Rows.fnUnpackBehindSpec.plain.varTypes Tryz.prog).any (Tryz.prog.ifacesRec ·))) = true := by kernel_rfl
theorem k15 : ((Rows.fnUnpackBehindRow.mapsOut == Tryz.prog.mapsAmong Tryz.f10.resultTypes.toList)) = true := by kernel_rfl
theorem k16 : ((Rows.fnUnpackBehindRow.loops == (Tryz.f10.params.toList ++ Rows.fnUnpackBehindSpec.plain.varTypes Tryz.prog).any (Tryz.prog.loopsFrom ·))) = true := by kernel_rfl
theorem k17 : ((Rows.fnUnpackBehindRow.wideKeys == (Tryz.f10.params.toList ++ Rows.fnUnpackBehindSpec.plain.varTypes Tryz.prog ++ Tryz.f10.resultTypes.toList).any (Tryz.prog.wideKeysFrom ·))) = true := by kernel_rfl
theorem k18 : (Rows.fnUnpackBehindSpec.vars.all (Tryz.prog.varReadable ·)) = true := by kernel_rfl
theorem k19 : (Tryz.f10.resultTypes.all (fun t => Tryz.prog.readableRec t && decide (t < Tryz.prog.types.size))) = true := by kernel_rfl
theorem k20 : ((Rows.fnUnpackBehindRow.ifacesOut == Tryz.f10.resultTypes.toList.any (Tryz.prog.ifacesRec ·))) = true := by kernel_rfl
theorem k21 : ((Rows.fnUnpackBehindRow.loopsOut == Tryz.f10.resultTypes.toList.any (Tryz.prog.loopsFrom ·))) = true := by kernel_rfl
theorem k22 : ((Rows.fnUnpackBehindRow.plainKeys == Tryz.prog.plainKeys)) = true := swap2 (rfl : Rows.fnUnpackBehindRow.plainKeys = Rows.fnExactUnpackRow.plainKeys) kp22
theorem k23 : (Rows.fnUnpackBehindRow.shortTexts.isNone) = true := by kernel_rfl
theorem k26 : ((Rows.fnUnpackBehindRow.lifted == Tryz.prog.liftsFinal)) = true := swap2 (rfl : Rows.fnUnpackBehindRow.lifted = Rows.fnExactUnpackRow.lifted) kp26
theorem k27 : ((Tryz.prog.make == some Rows.fnUnpackBehindRow.make)) = true := kp27
theorem k28 : ((Rows.fnUnpackBehindRow.kinds == (if Rows.fnUnpackBehindRow.domain.isEmpty then [] else Tryz.f10.params.toList.map fun t => match Tryz.prog.underlying t with | some (.int k) => some k | _ => none))) = true := by kernel_rfl
theorem k29 : ((Rows.fnUnpackBehindRow.pinned == Rows.fnUnpackBehindRow.pinnedBy)) = true := by kernel_rfl
theorem k30 : ((Rows.fnUnpackBehindRow.veiled == (Tryz.f10.params.toList ++ Rows.fnUnpackBehindSpec.plain.varTypes Tryz.prog ++ Tryz.f10.resultTypes.toList).any (Tryz.prog.veiledRec ·))) = true := by kernel_rfl
theorem k31 : (Rows.fnUnpackBehindRow.veiledFits Tryz.prog Tryz.f10.params.toList (Tryz.f10.params.toList ++ Rows.fnUnpackBehindSpec.plain.varTypes Tryz.prog ++ Tryz.f10.resultTypes.toList)) = true := by kernel_rfl
set_option maxRecDepth 100000 in
theorem closed : joinedFacts Tryz.prog 10 Tryz.f10 Rows.fnUnpackBehindSpec Rows.fnUnpackBehindRow = true := joined_of k0 kp1 kp2 k3 k4 k5 kp6 k7 kp8 k9 k10 k11 k12 k13 k14 k15 k16 k17 k18 k19 k20 k21 k22 k23 kp24 kp25 k26 k27 k28 k29 k30 k31
theorem byText : Rows.fnUnpackBehindRow.wfByText (OpenSpec.ofChange Rows.fnUnpackBehindSpec) = true := by kernel_rfl
theorem goes : false = Rows.fnUnpackBehindRow.goesBy Tryz.pinned.checked.prog := by kernel_rfl
end FnUnpackBehind
end Go.Proofs.YtmigokakpahgkaaGreatDoor

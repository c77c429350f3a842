/- The row of the law FnUnpackIsAll: its closed facts, one by one, by the kernel. -/
import Derived.Test.YtmigokakpahgkaaGreatDoorG33
set_option linter.all false
namespace Go.Proofs.YtmigokakpahgkaaGreatDoor
open Go Go.Proofs.YtmigokakpahgkaaGreatDoor Go.ChangeShapes Go.WideShapes Go.ChangeAt Go.WideMaps Go.WideElems Go.RowKit
namespace FnUnpackIsAll
theorem k0 : (Rows.fnUnpackIsAllRow.wf (OpenSpec.ofChange Rows.fnUnpackIsAllSpec)) = true := by kernel_rfl
theorem k3 : (Tryz.f11.params.all (Tryz.prog.readableRec ·)) = true := by kernel_rfl
theorem k4 : (namedTie Tryz.prog Rows.fnUnpackIsAllRow.named Rows.fnUnpackIsAllSpec.vars) = true := by kernel_rfl
theorem k5 : ((Rows.fnUnpackIsAllRow.stops == [])) = true := by kernel_rfl
theorem k7 : ((Rows.fnUnpackIsAllRow.knobs == [])) = true := by kernel_rfl
theorem k9 : ((Rows.fnUnpackIsAllRow.inPlace == Tryz.prog.inPlace 11)) = true := by kernel_rfl
theorem k10 : ((Rows.fnUnpackIsAllRow.unfollowed == Tryz.prog.unfollowed 11)) = true := by kernel_rfl
theorem k11 : ((Rows.fnUnpackIsAllRow.recurses == Tryz.prog.recurses 11)) = true := by kernel_rfl
theorem k12 : ((Rows.fnUnpackIsAllRow.named == Tryz.prog.varsNamed 11)) = true := by kernel_rfl
theorem k13 : ((Rows.fnUnpackIsAllRow.maps == (Tryz.f11.params.toList ++ Rows.fnUnpackIsAllSpec.plain.varTypes Tryz.prog).any (Tryz.prog.mapsRec ·))) = true := by kernel_rfl
theorem k14 : ((Rows.fnUnpackIsAllRow.ifaces == (Tryz.f11.params.toList ++ Rows.fnUnpackIsAllSpec.plain.varTypes Tryz.prog).any (Tryz.prog.ifacesRec ·))) = true := by kernel_rfl
theorem k15 : ((Rows.fnUnpackIsAllRow.mapsOut == Tryz.prog.mapsAmong Tryz.f11.resultTypes.toList)) = true := by kernel_rfl
theorem k16 : ((Rows.fnUnpackIsAllRow.loops == (Tryz.f11.params.toList ++ Rows.fnUnpackIsAllSpec.plain.varTypes Tryz.prog).any (Tryz.prog.loopsFrom ·))) = true := by kernel_rfl
theorem k17 : ((Rows.fnUnpackIsAllRow.wideKeys == (Tryz.f11.params.toList ++ Rows.fnUnpackIsAllSpec.plain.varTypes Tryz.prog ++ Tryz.f11.resultTypes.toList).any (Tryz.prog.wideKeysFrom ·))) = true := by kernel_rfl
theorem k18 : (Rows.fnUnpackIsAllSpec.vars.all (Tryz.prog.varReadable ·)) = true := by kernel_rfl
theorem k19 : (Tryz.f11.resultTypes.all (fun t => Tryz.prog.readableRec t && decide (t < Tryz.prog.types.size))) = true := by kernel_rfl
theorem k20 : ((Rows.fnUnpackIsAllRow.ifacesOut == Tryz.f11.resultTypes.toList.any (Tryz.prog.ifacesRec ·))) = true := by kernel_rfl
theorem k21 : ((Rows.fnUnpackIsAllRow.loopsOut == Tryz.f11.resultTypes.toList.any (Tryz.prog.loopsFrom ·))) = true := by kernel_rfl
theorem k22 : ((Rows.fnUnpackIsAllRow.plainKeys == Tryz.prog.plainKeys)) = true := swap2 (rfl : Rows.fnUnpackIsAllRow.plainKeys = Rows.fnExactUnpackRow.plainKeys) kp22
theorem k23 : (Rows.fnUnpackIsAllRow.shortTexts.isNone) = true := by kernel_rfl
theorem k26 : ((Rows.fnUnpackIsAllRow.lifted == Tryz.prog.liftsFinal)) = true := swap2 (rfl : Rows.fnUnpackIsAllRow.lifted = Rows.fnExactUnpackRow.lifted) kp26
theorem k27 : ((Tryz.prog.make == some Rows.fnUnpackIsAllRow.make)) = true := kp27
theorem k28 : ((Rows.fnUnpackIsAllRow.kinds == (if Rows.fnUnpackIsAllRow.domain.isEmpty then [] else Tryz.f11.params.toList.map fun t => match Tryz.prog.underlying t with | some (.int k) => some k | _ => none))) = true := by kernel_rfl
theorem k29 : ((Rows.fnUnpackIsAllRow.pinned == Rows.fnUnpackIsAllRow.pinnedBy)) = true := by kernel_rfl
theorem k30 : ((Rows.fnUnpackIsAllRow.veiled == (Tryz.f11.params.toList ++ Rows.fnUnpackIsAllSpec.plain.varTypes Tryz.prog ++ Tryz.f11.resultTypes.toList).any (Tryz.prog.veiledRec ·))) = true := by kernel_rfl
theorem k31 : (Rows.fnUnpackIsAllRow.veiledFits Tryz.prog Tryz.f11.params.toList (Tryz.f11.params.toList ++ Rows.fnUnpackIsAllSpec.plain.varTypes Tryz.prog ++ Tryz.f11.resultTypes.toList)) = true := by kernel_rfl
set_option maxRecDepth 100000 in
theorem closed : joinedFacts Tryz.prog 11 Tryz.f11 Rows.fnUnpackIsAllSpec Rows.fnUnpackIsAllRow = true := joined_of k0 kp1 kp2 k3 k4 k5 kp6 k7 kp8 k9 k10 k11 k12 k13 k14 k15 k16 k17 k18 k19 k20 k21 k22 k23 kp24 kp25 k26 k27 k28 k29 k30 k31
theorem byText : Rows.fnUnpackIsAllRow.wfByText (OpenSpec.ofChange Rows.fnUnpackIsAllSpec) = true := by kernel_rfl
theorem goes : false = Rows.fnUnpackIsAllRow.goesBy Tryz.pinned.checked.prog := by kernel_rfl
end FnUnpackIsAll
end Go.Proofs.YtmigokakpahgkaaGreatDoor

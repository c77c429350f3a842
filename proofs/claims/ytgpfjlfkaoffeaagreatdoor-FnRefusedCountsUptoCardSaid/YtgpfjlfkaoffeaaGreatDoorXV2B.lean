/- The row of the law FnRefusedCounts, its second form: its closed facts, one by one, by the kernel. -/
import Derived.Test.YtgpfjlfkaoffeaaGreatDoorXW7
set_option linter.all false
namespace Go.Proofs.YtgpfjlfkaoffeaaGreatDoor
open Go Go.Proofs.YtgpfjlfkaoffeaaGreatDoor Go.ChangeShapes Go.WideShapes Go.ChangeAt Go.WideMaps Go.WideElems Go.RowKit
namespace FnRefusedCounts
theorem k0 : (Rows.fnRefusedCountsUptoRow.wf (OpenSpec.ofChange (Rows.OpenSpec.upto Rows.fnRefusedCountsSpec).bare)) = true := by kernel_rfl
theorem k3 : (Tryz.f4.params.all (Tryz.prog.readableRec ·)) = true := by kernel_rfl
theorem k4 : (namedTie Tryz.prog Rows.fnRefusedCountsUptoRow.named (Rows.OpenSpec.upto Rows.fnRefusedCountsSpec).bare.vars) = true := by kernel_rfl
theorem k5 : ((Rows.fnRefusedCountsUptoRow.stops == [])) = true := by kernel_rfl
theorem k7 : ((Rows.fnRefusedCountsUptoRow.knobs == [])) = true := by kernel_rfl
theorem k9 : ((Rows.fnRefusedCountsUptoRow.inPlace == Tryz.prog.inPlace 4)) = true := by kernel_rfl
theorem k10 : ((Rows.fnRefusedCountsUptoRow.unfollowed == Tryz.prog.unfollowed 4)) = true := by kernel_rfl
theorem k11 : ((Rows.fnRefusedCountsUptoRow.recurses == Tryz.prog.recurses 4)) = true := by kernel_rfl
theorem k12 : ((Rows.fnRefusedCountsUptoRow.named == Tryz.prog.varsNamed 4)) = true := by kernel_rfl
theorem k13 : ((Rows.fnRefusedCountsUptoRow.maps == (Tryz.f4.params.toList ++ (Rows.OpenSpec.upto Rows.fnRefusedCountsSpec).bare.plain.varTypes Tryz.prog).any (Tryz.prog.mapsRec ·))) = true := by kernel_rfl
theorem k14 : ((Rows.fnRefusedCountsUptoRow.ifaces == (Tryz.f4.params.toList ++ (Rows.OpenSpec.upto Rows.fnRefusedCountsSpec).bare.plain.varTypes Tryz.prog).any (Tryz.prog.ifacesRec ·))) = true := by kernel_rfl
theorem k15 : ((Rows.fnRefusedCountsUptoRow.mapsOut == Tryz.prog.mapsAmong Tryz.f4.resultTypes.toList)) = true := by kernel_rfl
theorem k16 : ((Rows.fnRefusedCountsUptoRow.loops == (Tryz.f4.params.toList ++ (Rows.OpenSpec.upto Rows.fnRefusedCountsSpec).bare.plain.varTypes Tryz.prog).any (Tryz.prog.loopsFrom ·))) = true := by kernel_rfl
theorem k17 : ((Rows.fnRefusedCountsUptoRow.wideKeys == (Tryz.f4.params.toList ++ (Rows.OpenSpec.upto Rows.fnRefusedCountsSpec).bare.plain.varTypes Tryz.prog ++ Tryz.f4.resultTypes.toList).any (Tryz.prog.wideKeysFrom ·))) = true := by kernel_rfl
theorem k18 : ((Rows.OpenSpec.upto Rows.fnRefusedCountsSpec).bare.vars.all (Tryz.prog.varReadable ·)) = true := by kernel_rfl
theorem k19 : (Tryz.f4.resultTypes.all (fun t => Tryz.prog.readableRec t && decide (t < Tryz.prog.types.size))) = true := by kernel_rfl
theorem k20 : ((Rows.fnRefusedCountsUptoRow.ifacesOut == Tryz.f4.resultTypes.toList.any (Tryz.prog.ifacesRec ·))) = true := by kernel_rfl
theorem k21 : ((Rows.fnRefusedCountsUptoRow.loopsOut == Tryz.f4.resultTypes.toList.any (Tryz.prog.loopsFrom ·))) = true := by kernel_rfl
theorem k22 : ((Rows.fnRefusedCountsUptoRow.plainKeys == Tryz.prog.plainKeys)) = true := swap2 (rfl : Rows.fnRefusedCountsUptoRow.plainKeys = Rows.fnParamsOrderRow.plainKeys) kp22
theorem k23 : (Rows.fnRefusedCountsUptoRow.shortTexts.isNone) = true := by kernel_rfl
theorem k26 : ((Rows.fnRefusedCountsUptoRow.lifted == Tryz.prog.liftsFinal)) = true := swap2 (rfl : Rows.fnRefusedCountsUptoRow.lifted = Rows.fnParamsOrderRow.lifted) kp26
theorem k27 : ((Tryz.prog.make == some Rows.fnRefusedCountsUptoRow.make)) = true := kp27
theorem k28 : ((Rows.fnRefusedCountsUptoRow.kinds == (if Rows.fnRefusedCountsUptoRow.domain.isEmpty then [] else Tryz.f4.params.toList.map fun t => match Tryz.prog.underlying t with | some (.int k) => some k | _ => none))) = true := by kernel_rfl
theorem k29 : ((Rows.fnRefusedCountsUptoRow.pinned == Rows.fnRefusedCountsUptoRow.pinnedBy)) = true := by kernel_rfl
theorem k30 : ((Rows.fnRefusedCountsUptoRow.veiled == (Tryz.f4.params.toList ++ (Rows.OpenSpec.upto Rows.fnRefusedCountsSpec).bare.plain.varTypes Tryz.prog ++ Tryz.f4.resultTypes.toList).any (Tryz.prog.veiledRec ·))) = true := by kernel_rfl
theorem k31 : (Rows.fnRefusedCountsUptoRow.veiledFits Tryz.prog Tryz.f4.params.toList (Tryz.f4.params.toList ++ (Rows.OpenSpec.upto Rows.fnRefusedCountsSpec).bare.plain.varTypes Tryz.prog ++ Tryz.f4.resultTypes.toList)) = true := by kernel_rfl
set_option maxRecDepth 100000 in
theorem closed : joinedFacts Tryz.prog 4 Tryz.f4 (Rows.OpenSpec.upto Rows.fnRefusedCountsSpec).bare Rows.fnRefusedCountsUptoRow = true := joined_of k0 kp1 kp2 k3 k4 k5 kp6 k7 kp8 k9 k10 k11 k12 k13 k14 k15 k16 k17 k18 k19 k20 k21 k22 k23 kp24 kp25 k26 k27 k28 k29 k30 k31
theorem byText : Rows.fnRefusedCountsUptoRow.wfByText (Rows.OpenSpec.upto Rows.fnRefusedCountsSpec) = true := by kernel_rfl
theorem goes : false = Rows.fnRefusedCountsUptoRow.goesBy Tryz.pinned.checked.prog := by kernel_rfl
end FnRefusedCounts
end Go.Proofs.YtgpfjlfkaoffeaaGreatDoor

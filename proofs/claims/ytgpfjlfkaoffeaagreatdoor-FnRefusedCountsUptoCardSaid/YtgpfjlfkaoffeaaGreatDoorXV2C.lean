/- The law FnRefusedCounts, its second form (where what it reads is of bulk at most 1048576): the statement and its tied card: for every argument of these types within the bound, in every world whose package-level variables hold what the program's text lays, the law's function returns true, and leaves its arguments and these variables as they were. -/
import Derived.Test.YtgpfjlfkaoffeaaGreatDoorXV2A
import Derived.Test.YtgpfjlfkaoffeaaGreatDoorXV2B
set_option linter.all false
namespace Go.Proofs.YtgpfjlfkaoffeaaGreatDoor
open Go Go.Proofs.YtgpfjlfkaoffeaaGreatDoor Go.ChangeShapes Go.WideShapes Go.ChangeAt Go.WideMaps Go.WideElems Go.RowKit
namespace FnRefusedCounts
theorem said : Rows.FnRefusedCountsUptoSaid :=
  OpenClaim.holds_of_cond 4 Tryz.f4 rfl rfl rfl rfl rfl rfl rfl ⟨rfl, rfl, rfl, rfl, rfl⟩ rfl rfl rfl rfl rfl (by kernel_rfl) Tryz.func4 closed
    (of_decide_eq_true (by kernel_rfl)) (by unfold Func.isWrapper; first | (rw [if_pos (by decide +kernel)]; kernel_rfl) | (rw [if_neg (by decide +kernel)]; exact ⟨rfl, rfl⟩))
    (fun os started H enc _ F => by rw [OpenClaim.pre_eq_preRow]; exact lifted os started H enc F)
theorem plain (f : FuncId) (fn : Func) (hf : Tryz.pinned.checked.prog.funcNamed Rows.fnRefusedCountsUptoRow.func = some f) (hfn : Tryz.pinned.checked.prog.funcs[f]? = some fn) :
    true = Tryz.pinned.checked.prog.looks [] ∧ ∀ (j : Nat) t, fn.params[j]? = some t → Tryz.pinned.checked.prog.wantsStandIn t = false := by
  obtain rfl : f = 4 := Option.some.inj ((show Tryz.prog.funcNamed Rows.fnRefusedCountsUptoRow.func = some 4 by kernel_rfl).symm.trans hf) |>.symm
  obtain rfl : fn = Tryz.f4 := (Option.some.inj (Tryz.func4.symm.trans hfn)).symm
  refine ⟨looks0, fun j t ht => ?_⟩
  rw [Tryz.params4] at ht
  have hm : t ∈ [36, 3] := by simpa using Array.mem_of_getElem? ht
  have hall : ([36, 3].all fun u => !Tryz.prog.wantsStandIn u) = true := by kernel_rfl
  exact (show Tryz.prog.wantsStandIn t = false by simpa using List.all_eq_true.1 hall t hm)
theorem card : Rows.FnRefusedCountsUptoCardSaid :=
  Claim7.holds_tied_plain_at .later [] _ _ _ _ said (fun _ h => by cases h) byText (fun _ h => by cases h) fnRefusedCountsUpto_row_tie rfl ⟨rfl, rfl⟩ (by kernel_rfl) rfl plain goes
end FnRefusedCounts
end Go.Proofs.YtgpfjlfkaoffeaaGreatDoor

/- The law FnUnpackAgain: the statement and its tied card: for every argument of these types, in every world whose package-level variables hold what the program's text lays, the law's function returns true, and leaves its arguments and these variables as they were. -/
import Derived.Test.YtgpfjlfkaoffeaaGreatDoorXV3A
import Derived.Test.YtgpfjlfkaoffeaaGreatDoorXV3B
set_option linter.all false
namespace Go.Proofs.YtgpfjlfkaoffeaaGreatDoor
open Go Go.Proofs.YtgpfjlfkaoffeaaGreatDoor Go.ChangeShapes Go.WideShapes Go.ChangeAt Go.WideMaps Go.WideElems Go.RowKit
namespace FnUnpackAgain
theorem said : Rows.FnUnpackAgainSaid :=
  OpenClaim.holds_of_wide 5 Tryz.f5 rfl rfl rfl rfl rfl rfl rfl ⟨rfl, rfl, rfl, rfl, rfl⟩ rfl rfl rfl rfl rfl (by kernel_rfl) Tryz.func5 closed
    (of_decide_eq_true (by kernel_rfl)) (by unfold Func.isWrapper; first | (rw [if_pos (by decide +kernel)]; kernel_rfl) | (rw [if_neg (by decide +kernel)]; exact ⟨rfl, rfl⟩))
    (fun os started H enc _ => lifted os started H enc)
theorem plain (f : FuncId) (fn : Func) (hf : Tryz.pinned.checked.prog.funcNamed Rows.fnUnpackAgainRow.func = some f) (hfn : Tryz.pinned.checked.prog.funcs[f]? = some fn) :
    true = Tryz.pinned.checked.prog.looks [] ∧ ∀ (j : Nat) t, fn.params[j]? = some t → Tryz.pinned.checked.prog.wantsStandIn t = false := by
  obtain rfl : f = 5 := Option.some.inj ((show Tryz.prog.funcNamed Rows.fnUnpackAgainRow.func = some 5 by kernel_rfl).symm.trans hf) |>.symm
  obtain rfl : fn = Tryz.f5 := (Option.some.inj (Tryz.func5.symm.trans hfn)).symm
  refine ⟨looks0, fun j t ht => ?_⟩
  rw [Tryz.params5] at ht
  have hm : t ∈ [23] := by simpa using Array.mem_of_getElem? ht
  have hall : ([23].all fun u => !Tryz.prog.wantsStandIn u) = true := by kernel_rfl
  exact (show Tryz.prog.wantsStandIn t = false by simpa using List.all_eq_true.1 hall t hm)
theorem card : Rows.FnUnpackAgainCardSaid :=
  Claim7.holds_tied_plain_at .later [] _ _ _ _ said (fun _ h => by cases h) byText (fun _ h => by cases h) fnUnpackAgain_row_tie rfl ⟨rfl, rfl⟩ (by kernel_rfl) rfl plain goes
end FnUnpackAgain
end Go.Proofs.YtgpfjlfkaoffeaaGreatDoor

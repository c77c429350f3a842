/- The law FnUnpackAgain: what its walk gives for every argument and world; the lifted form, with the door's own run as the witness. -/
import Derived.Test.YtgpfjlfkaoffeaaGreatDoorU40
import Derived.Test.YtgpfjlfkaoffeaaGreatDoorU39
set_option linter.all false
namespace Go.Proofs.YtgpfjlfkaoffeaaGreatDoor
open Go Go.Proofs.YtgpfjlfkaoffeaaGreatDoor Go.ChangeShapes Go.WideShapes Go.ChangeAt Go.WideMaps Go.WideElems Go.RowKit
namespace FnUnpackAgain
set_option maxRecDepth 100000 in
theorem contract (H : Type) (enc : TypeId × Value → H) (W : World) (base : Nat) (args : Array Value) (ds gs : List (DataW H)) (before : List MemPlace)
    (hval : ∀ (j : Nat) t v, Tryz.f5.params[j]? = some t → args[j]? = some v → Value.okWide Tryz.prog W .any base t v)
    (hW : DataW.Whole enc Tryz.prog Tryz.f5.params.toList Rows.fnUnpackAgainSpec.vars false W args.toList ds gs before) (hL : laidMetH Tryz.prog Rows.fnUnpackAgainRow.laid W) :
    Calls Tryz.prog 5 args W fun e W' => ∃ v, e = .returned v ∧ Rows.fnUnpackAgainSpec.post enc Tryz.prog Tryz.f5 false true false false W args v W' := by
  have hW' := hW
  obtain ⟨p, q, hA0, hV, rfl, hfz, hnd⟩ := hW
  have hA : DataW.TrodAll enc Tryz.prog W 0 (fun _ => true) true Tryz.f5.params.toList args.toList ds p := hA0
  have hlt : ∀ x ∈ p, x.block < W.heap.size := fun x hx => by simpa using hW'.lt x (List.mem_append_left _ hx)
  rw [Tryz.params5] at hA hval
  obtain ⟨v0, d0, rfl, rfl, h0⟩ := trodAll_one hA
  obtain ⟨l, hb⟩ := bytes_of (hval 0 23 v0 rfl rfl) h0
  have hG := gl_of_laid hL
  have walk := c_FnUnpackAgain hG (allV_in W) hb
  unfold eC at walk
  refine walk.mono fun e W' ⟨v, he, hv, V', hs⟩ => ?_
  subst he
  subst hv
  have hbel := hs.below
  have carry : ∀ {t : TypeId} {v : Value} {d : DataW H} {ps : List MemPlace}, DataW.Trod enc Tryz.prog W 0 (fun _ => true) true t v d ps → (∀ x ∈ ps, x.block < W.heap.size) → Tryz.prog.readableRec t = true → t < Tryz.prog.types.size → DataW.Trod enc Tryz.prog W' 0 (fun b => decide (b < W.heap.size)) true t v d ps :=
    fun h hl hr ht => Below.trod laidOut hr ht h hbel hl
  have hgl := vars_len hV
  match gs, hgl with
  | [g1, g2, g3, g4, g5, g6, g7, g8, g9, g10, g11, g12, g13, g14, g15, g16, g17, g18, g19, g20, g21], _ =>
    refine ⟨_, rfl, _, _, _, [], p, q, hW', trodAll_mk1 (shut_bool Tryz.underlying4 true), ?_, Below.trodVars laidOut hbel (by kernel_rfl) hV, hbel.frame _, fun h => by cases h⟩
    exact trodAll_mk1 (carry h0 hlt (by kernel_rfl) (of_decide_eq_true (by kernel_rfl)))
set_option maxRecDepth 100000 in
theorem lifted (os : Os) (started : os.Started) (H : Type) (enc : TypeId × Value → H) :
    ReturnsInHanded {} Tryz.checked os 5 .any (fun w args => (Rows.fnUnpackAgainSpec.pre enc Tryz.prog Tryz.f5 [] false w args ∧ laidMetH Tryz.prog Rows.fnUnpackAgainRow.laid w) ∧ sizedMet enc Tryz.prog Tryz.f5 (OpenSpec.ofChange Rows.fnUnpackAgainSpec) false w args)
      (Rows.fnUnpackAgainSpec.post enc Tryz.prog Tryz.f5 false true false false) := by
  refine returnsInHanded_of_change_and (C := Tryz.checked) (X := fun w _ => laidMetH Tryz.prog Rows.fnUnpackAgainRow.laid w) (fun _ _ _ hh h => h.of_heap hh) own started (by kernel_rfl) Tryz.func5
    (ChangeSpec.witness_shaped (enc := enc) (C := Tryz.checked) (os := os) (X := fun w _ => laidMetH Tryz.prog Rows.fnUnpackAgainRow.laid w) false (World.doorLaid Tryz.prog 457 os) #[.slice none 0 0] 8 rfl (World.shaped_of_RefB (by kernel_rfl) (by kernel_rfl)) (by kernel_rfl) (by kernel_rfl) (by kernel_rfl) (door_met os _)) ?_
  intro W base args ds gs before hval hW _ _ hL _
  exact contract H enc W base args ds gs before hval hW hL
end FnUnpackAgain
end Go.Proofs.YtgpfjlfkaoffeaaGreatDoor

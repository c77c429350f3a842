/- The law FnParamsOrder: what its walk gives for every argument and world; the lifted form, with the door's own run as the witness. -/
import Derived.Test.YtgpfjlfkaoffeaaGreatDoorP40
import Derived.Test.YtgpfjlfkaoffeaaGreatDoorP39
set_option linter.all false
namespace Go.Proofs.YtgpfjlfkaoffeaaGreatDoor
open Go Go.Proofs.YtgpfjlfkaoffeaaGreatDoor Go.ChangeShapes Go.WideShapes Go.ChangeAt Go.WideMaps Go.WideElems Go.RowKit
namespace FnParamsOrder
set_option maxRecDepth 100000 in
theorem contract (H : Type) (enc : TypeId × Value → H) (W : World) (base : Nat) (args : Array Value) (ds gs : List (DataW H)) (before : List MemPlace)
    (hval : ∀ (j : Nat) t v, Tryz.f3.params[j]? = some t → args[j]? = some v → Value.okWide Tryz.prog W .any base t v)
    (hW : DataW.Whole enc Tryz.prog Tryz.f3.params.toList Rows.fnParamsOrderSpec.vars false W args.toList ds gs before) (hL : laidMetH Tryz.prog Rows.fnParamsOrderRow.laid W) :
    Calls Tryz.prog 3 args W fun e W' => ∃ v, e = .returned v ∧ Rows.fnParamsOrderSpec.post enc Tryz.prog Tryz.f3 false true false false W args v W' := by
  have hW' := hW
  obtain ⟨p, q, hA0, hV, rfl, hfz, hnd⟩ := hW
  have hA : DataW.TrodAll enc Tryz.prog W 0 (fun _ => true) true Tryz.f3.params.toList args.toList ds p := hA0
  have hlt : ∀ x ∈ p, x.block < W.heap.size := fun x hx => by simpa using hW'.lt x (List.mem_append_left _ hx)
  rw [Tryz.params3] at hA hval
  obtain ⟨v0, v1, v2, d0, d1, d2, p0, p1, p2, rfl, rfl, rfl, h0, h1, h2⟩ := trodAll_three hA
  obtain ⟨n0, rfl, rfl, rfl, hn0⟩ := open_int Tryz.underlying22 (hval 0 22 v0 rfl rfl) h0
  obtain ⟨n1, rfl, rfl, rfl, hn1⟩ := open_int Tryz.underlying22 (hval 1 22 v1 rfl rfl) h1
  obtain ⟨o2, rfl, rfl, rfl⟩ := open_bool Tryz.underlying4 (hval 2 4 v2 rfl rfl) h2
  obtain ⟨f, hf, rfl⟩ := u16_nat hn0
  obtain ⟨s, hs2, rfl⟩ := u16_nat hn1
  have hG := gl_of_laid hL
  have walk := c_FnParamsOrder hG (allV_in W) hf hs2 (h := o2)
  unfold CallsV at walk
  refine walk.mono fun e W' ⟨v, he, hv, V', hs⟩ => ?_
  subst he
  subst hv
  have hbel := hs.below
  have carry : ∀ {t : TypeId} {v : Value} {d : DataW H} {ps : List MemPlace}, DataW.Trod enc Tryz.prog W 0 (fun _ => true) true t v d ps → (∀ x ∈ ps, x.block < W.heap.size) → Tryz.prog.readableRec t = true → t < Tryz.prog.types.size → DataW.Trod enc Tryz.prog W' 0 (fun b => decide (b < W.heap.size)) true t v d ps :=
    fun h hl hr ht => Below.trod laidOut hr ht h hbel hl
  have hgl := vars_len hV
  match gs, hgl with
  | [g1, g2, g3, g4, g5, g6, g7, g8, g9, g10, g11, g12, g13, g14, g15, g16, g17, g18, g19, g20, g21], _ =>
    refine ⟨_, rfl, _, _, _, [], ([] ++ ([] ++ [])), q, hW', trodAll_mk1 (shut_bool Tryz.underlying4 true), ?_, Below.trodVars laidOut hbel (by kernel_rfl) hV, hbel.frame _, fun h => by cases h⟩
    exact trodAll_mk3 (carry h0 (fun x hx => by cases hx) (by kernel_rfl) (of_decide_eq_true (by kernel_rfl))) (carry h1 (fun x hx => by cases hx) (by kernel_rfl) (of_decide_eq_true (by kernel_rfl))) (carry h2 (fun x hx => by cases hx) (by kernel_rfl) (of_decide_eq_true (by kernel_rfl)))
set_option maxRecDepth 100000 in
theorem lifted (os : Os) (started : os.Started) (H : Type) (enc : TypeId × Value → H) :
    ReturnsInHanded {} Tryz.checked os 3 .any (fun w args => (Rows.fnParamsOrderSpec.pre enc Tryz.prog Tryz.f3 [] false w args ∧ laidMetH Tryz.prog Rows.fnParamsOrderRow.laid w) ∧ sizedMet enc Tryz.prog Tryz.f3 (OpenSpec.ofChange Rows.fnParamsOrderSpec) false w args)
      (Rows.fnParamsOrderSpec.post enc Tryz.prog Tryz.f3 false true false false) := by
  refine returnsInHanded_of_change_and (C := Tryz.checked) (X := fun w _ => laidMetH Tryz.prog Rows.fnParamsOrderRow.laid w) (fun _ _ _ hh h => h.of_heap hh) own started (by kernel_rfl) Tryz.func3
    (ChangeSpec.witness_shaped (enc := enc) (C := Tryz.checked) (os := os) (X := fun w _ => laidMetH Tryz.prog Rows.fnParamsOrderRow.laid w) false (World.doorLaid Tryz.prog 457 os) #[.int .u16 0, .int .u16 0, .bool false] 8 rfl (World.shaped_of_RefB (by kernel_rfl) (by kernel_rfl)) (by kernel_rfl) (by kernel_rfl) (by kernel_rfl) (door_met os _)) ?_
  intro W base args ds gs before hval hW _ _ hL _
  exact contract H enc W base args ds gs before hval hW hL
end FnParamsOrder
end Go.Proofs.YtgpfjlfkaoffeaaGreatDoor

/- The law FnRefusedCounts, where what it reads is of a bound bulk: what its walk gives for every argument and world; the lifted form, with the door's own run as the witness. -/
import Derived.Test.YtgpfjlfkaoffeaaGreatDoorR26
import Derived.Test.YtgpfjlfkaoffeaaGreatDoorR32
import Derived.Test.YtgpfjlfkaoffeaaGreatDoorR33
import Derived.Deep.DeepHandedRow
import Derived.Deep.DeepWitnessRowRef
set_option linter.all false
namespace Go.Proofs.YtgpfjlfkaoffeaaGreatDoor
open Go Go.Proofs.YtgpfjlfkaoffeaaGreatDoor Go.ChangeShapes Go.WideShapes Go.ChangeAt Go.WideMaps Go.WideElems Go.RowKit Go.Deep
namespace FnRefusedCounts
set_option maxRecDepth 100000 in
theorem contract (H : Type) (enc : TypeId × Value → H) (W : World) (base : Nat) (args : Array Value) (ds gs : List (DataW H)) (before : List MemPlace)
    (hval : ∀ (j : Nat) t v, Tryz.f4.params[j]? = some t → args[j]? = some v → Value.okWide Tryz.prog W .any base t v)
    (hW : DataW.Whole enc Tryz.prog Tryz.f4.params.toList Rows.fnRefusedCountsSpec.vars false W args.toList ds gs before) (hk : Rows.uptoBulkAll (ds ++ gs) ≤ 1048576) (hL : laidMetH Tryz.prog Rows.fnRefusedCountsUptoRow.laid W) :
    Calls Tryz.prog 4 args W fun e W' => ∃ v, e = .returned v ∧ Rows.fnRefusedCountsSpec.post enc Tryz.prog Tryz.f4 false true false false W args v W' := by
  have hW' := hW
  obtain ⟨p, q, hA0, hV, rfl, hfz, hnd⟩ := hW
  have hA : DataW.TrodAll enc Tryz.prog W 0 (fun _ => true) true Tryz.f4.params.toList args.toList ds p := hA0
  have hlt : ∀ x ∈ p, x.block < W.heap.size := fun x hx => by simpa using hW'.lt x (List.mem_append_left _ hx)
  rw [Tryz.params4] at hA hval
  obtain ⟨v0, v1, d0, d1, p0, p1, rfl, rfl, rfl, h0, h1⟩ := trodAll_two hA
  obtain ⟨m, va, x1, x2, x3, rfl, hQ, hA1, hA2, hA3, hsz⟩ := msg_of (hval 0 36 v0 rfl rfl) h0
  obtain ⟨n, rfl, rfl, rfl, hn⟩ := open_int Tryz.underlying3 (hval 1 3 v1 rfl rfl) h1
  have hsm : sizeM m ≤ 4611686018427387904 := by
    rw [bulk_app] at hk
    simp only [Rows.uptoBulkAll] at hk
    omega
  clear hk
  have hG := gl_of_laid hL
  have walk := c_FnRefusedCounts hG (allV_in W) hQ hA1 hA2 hA3 hsm n
  unfold eC at walk
  refine walk.mono fun e W' ⟨v, he, hv, V', hs⟩ => ?_
  subst he
  subst hv
  have hbel := hs.below
  have carry : ∀ {t : TypeId} {v : Value} {d : DataW H} {ps : List MemPlace}, DataW.Trod enc Tryz.prog W 0 (fun _ => true) true t v d ps → (∀ x ∈ ps, x.block < W.heap.size) → Tryz.prog.readableRec t = true → t < Tryz.prog.types.size → DataW.Trod enc Tryz.prog W' 0 (fun b => decide (b < W.heap.size)) true t v d ps :=
    fun h hl hr ht => Below.trod laidOut hr ht h hbel hl
  have hgl := vars_len hV
  match gs, hgl with
  | [g1, g2, g3, g4, g5, g6, g7, g8, g9, g10, g11, g12, g13, g14, g15, g16, g17, g18, g19, g20, g21], _ =>
    refine ⟨_, rfl, _, _, _, [], (p0 ++ []), q, hW', trodAll_mk1 (shut_bool Tryz.underlying4 true), ?_, Below.trodVars laidOut hbel (by kernel_rfl) hV, hbel.frame _, fun h => by cases h⟩
    exact trodAll_mk2 (carry h0 (fun x hx => hlt x (List.mem_append_left _ hx)) (by kernel_rfl) (of_decide_eq_true (by kernel_rfl))) (carry h1 (fun x hx => by cases hx) (by kernel_rfl) (of_decide_eq_true (by kernel_rfl)))
def seen (H : Type) (o : Option (List (DataW H) × List (DataW H) × List MemPlace)) : Bool := match o with
  | some x => Rows.uptoSmall H (x.1 ++ x.2.1)
  | none => false
theorem of_seen {H : Type} {o : Option (List (DataW H) × List (DataW H) × List MemPlace)} (h : seen H o = true) : ∃ x, o = some x ∧ Rows.uptoSmall H (x.1 ++ x.2.1) = true := by
  cases o with
  | none => cases h
  | some x => exact ⟨x, rfl, h⟩
def witArgs : Array Value := #[.agg #[.int .u16 0, .bool false, .int .u16 0, .bool false, .bool false, .bool false, .bool false, .bool false, .bool false, .int .u16 0, .slice none 0 0, .slice none 0 0, .slice none 0 0, .slice none 0 0], .int .i64 0]
theorem reads (os : Os) {H : Type} (enc : TypeId × Value → H) : seen H (DataW.whole enc Tryz.prog ((World.doorLaid Tryz.prog 457 os).forCall (fun _ _ => 0) ⟨#[], witArgs, []⟩).memory Tryz.f4.params.toList Rows.fnRefusedCountsSpec.vars false witArgs.toList 8) = true := by kernel_rfl
set_option maxRecDepth 100000 in
theorem lifted (os : Os) (started : os.Started) (H : Type) (enc : TypeId × Value → H) (F : Stop.Interp) :
    ReturnsInHanded {} Tryz.checked os 4 .any ((Rows.OpenSpec.upto Rows.fnRefusedCountsSpec).preRow enc Tryz.prog Tryz.f4 Rows.fnRefusedCountsUptoRow.domain false Rows.fnRefusedCountsUptoRow.laid) (((Rows.OpenSpec.upto Rows.fnRefusedCountsSpec).at F).post enc Tryz.prog Tryz.f4 false true false false) := by
  obtain ⟨x, hx, hb⟩ := of_seen (reads os enc)
  refine returnsInHanded_of_row (C := Tryz.checked) (s := (Rows.OpenSpec.upto Rows.fnRefusedCountsSpec)) own started (by kernel_rfl) Tryz.func4
    (witness_row_atRef (enc := enc) (C := Tryz.checked) false (World.doorLaid Tryz.prog 457 os) witArgs rfl (by kernel_rfl) (by kernel_rfl) (by kernel_rfl)
      (OpenSpec.preRow_of_cond 8 hx rfl (fun k hk => by cases hk; exact hb) (by kernel_rfl) (door_met os _))) ?_
  intro W base args ds gs before hval hW _ hcond _ hL _ _
  exact contract H enc W base args ds gs before hval hW (of_decide_eq_true (hcond _ rfl)) hL
end FnRefusedCounts
end Go.Proofs.YtgpfjlfkaoffeaaGreatDoor

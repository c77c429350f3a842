/- An argument of bytes, of numbers. How many variables a row names. Closed facts of the program, and the door's own run. -/
import Derived.Test.YtgpfjlfkaoffeaaGreatDoorU39
import Derived.ChangeSlices
import Derived.OpenShut
import Derived.RowKit
import Derived.Carry
import Derived.OpenVars
import Derived.Test.YtgpfjlfkaoffeaaGreatDoorCards
import Derived.Test.YtgpfjlfkaoffeaaGreatDoorTie
import Derived.Test.YtgpfjlfkaoffeaaGreatDoorChecked
import Derived.ProofKit
import Derived.LaidMore
import Derived.Stop.Joined
import Derived.SevenTiedAt
set_option linter.all false
namespace Go.Proofs.YtgpfjlfkaoffeaaGreatDoor
open Go Go.Proofs.YtgpfjlfkaoffeaaGreatDoor Go.ChangeShapes Go.WideShapes Go.RowKit
theorem cellsU8 : Tryz.prog.cellsOf 5 = 1 := by kernel_rfl
theorem laidOut : laidOutB Tryz.prog = true := by kernel_rfl
section
variable {H : Type} {enc : TypeId × Value → H} {W : World} {base : Nat} {v : Value} {d : DataW H} {p : List MemPlace}
theorem open_row1 {P : Program} {t e : TypeId} {k : IntKind} (ht : P.underlying t = some (.slice e)) (he : P.underlying e = some (.int k)) (hc : P.cellsOf e = 1) (hval : Value.okWide P W .any base t v) (h : DataW.Trod enc P W 0 (fun _ => true) true t v d p) :
  ∃ zs : List Int, SlV (allV W) 1 v zs.length (zs.map fun z => .int k z) ∧ ∀ n ∈ zs, (Lit.int k n).wf = true := by
 obtain ⟨a0, len, cap, rfl⟩ := okWide_slice ht hval
 obtain ⟨fuel, hf⟩ := h
 rcases open_ints ht he hc hf with ⟨hcs, _⟩ | ⟨a, len', cap', zs, hcs, _, hl, hm, hz, _, hcell, hwf⟩
 simp [Value.cells] at hcs
 obtain ⟨rfl, rfl, rfl⟩ := hcs
 exact ⟨[], SlV.nil _ 1, fun n h => by cases h⟩
 simp [Value.cells] at hcs
 obtain ⟨rfl, rfl, rfl⟩ := hcs
 have hspot : a.spot = none := by
  unfold Value.okWide at hval
  rw [ht] at hval
  simp only [Cell.okWide, ht, Cell.ok] at hval
  exact hval.2.2.2.1
 simp only [if_true] at hz
 obtain ⟨b, o, sp⟩ := a
 simp only at hspot
 subst hspot
 refine ⟨zs.take len, ⟨by simp, .inr ⟨b, o, cap, ?_, ?_, ?_⟩⟩, fun n hn => hwf n (List.mem_of_mem_take hn)⟩
 rw [List.length_take, hz, Nat.min_eq_left hl]
 rw [List.length_take]; omega
 intro j u hu
 rw [List.getElem?_map] at hu
 obtain ⟨z, hz2, rfl⟩ := Option.map_eq_some_iff.1 hu
 have hjl : j < (zs.take len).length := by
  rcases Nat.lt_or_ge j (zs.take len).length with h' | h'
  exact h'
  rw [List.getElem?_eq_none h'] at hz2; cases hz2
 rw [List.length_take] at hjl
 have := hcell j (by omega)
 rw [add_at] at this
 refine allV_cell ?_
 rw [this]
 rw [List.getElem?_take_of_lt (by omega)] at hz2
 simp [List.getD, hz2]
set_option maxRecDepth 100000 in
theorem bytes_of (hval : Value.okWide Tryz.prog W .any base 23 v) (h : DataW.Trod enc Tryz.prog W 0 (fun _ => true) true 23 v d p) : ∃ l, RB (allV W) v l := by
 obtain ⟨zs, h1, h2⟩ := open_row1 (P := Tryz.prog) Tryz.underlying23 Tryz.underlying5 cellsU8 hval h
 refine ⟨zs.map fun z => UInt8.ofNat z.toNat, ?_⟩
 unfold RB
 have e : (zs.map fun z => UInt8.ofNat z.toNat).map eA = zs.map fun z => .int .u8 z := by
  rw [List.map_map]
  refine List.map_congr_left fun z hz => ?_
  have hw := h2 z hz
  have hr : 0 ≤ z ∧ z ≤ 255 := by
   have := hw
   simp [Lit.wf, IntKind.min, IntKind.max, IntKind.signed, IntKind.bits] at this
   omega
  show Value.int .u8 ((UInt8.ofNat z.toNat).toNat : Int) = _
  rw [UInt8.toNat_ofNat_of_lt' (by show z.toNat < 256; omega), Int.toNat_of_nonneg hr.1]
 rw [e, List.length_map]
 exact h1
end
end Go.Proofs.YtgpfjlfkaoffeaaGreatDoor
namespace Go.Proofs.YtgpfjlfkaoffeaaGreatDoor
open Go Go.Proofs.YtgpfjlfkaoffeaaGreatDoor Go.ChangeShapes Go.WideShapes Go.RowKit
theorem vars_len {H : Type} {enc : TypeId × Value → H} {P : Program} {W : World} {sp : Nat → Bool} : ∀ {ns : List String} {gs : List (DataW H)} {ps : List MemPlace}, DataW.TrodVars enc P W sp ns gs ps → gs.length = ns.length
 | [], [], _, _ => rfl
 | [], _ :: _, _, h => h.elim
 | _ :: _, [], _, h => h.elim
 | n :: ns, d :: ds, ps, h => by
  obtain ⟨g, t, cs, fuel, p, q, _, _, _, _, hs, _⟩ := h
  simp [vars_len hs]
end Go.Proofs.YtgpfjlfkaoffeaaGreatDoor
namespace Go.Proofs.YtgpfjlfkaoffeaaGreatDoor
open Go Go.Proofs.YtgpfjlfkaoffeaaGreatDoor Go.ChangeShapes Go.WideShapes Go.ChangeAt Go.WideMaps Go.WideElems Go.RowKit
theorem own : ownKnob Tryz.prog.godebug = none := by kernel_rfl
theorem door_met (os : Os) (args : Array Value) : laidMetH Tryz.prog Rows.fnParamsOrderRow.laid ((World.doorLaid Tryz.prog 457 os).forCall (fun _ _ => 0) ⟨#[], args, []⟩).memory :=
  laidMetH_of_parts3 (fuel := 8) (laidMet_of_run' 8 (by kernel_rfl) (by kernel_rfl)) (by kernel_rfl) (by kernel_rfl)
theorem and2 {a b : Bool} (ha : a = true) (hb : b = true) : (a && b) = true := by rw [ha, hb]; rfl
theorem joined_of {P : Program} {f : FuncId} {fn : Func} {s : ChangeSpec} {c : OpenClaim}
    (h0 : (c.wf (OpenSpec.ofChange s)) = true)
    (h1 : (laidOutB P) = true)
    (h2 : (mapsRowed P) = true)
    (h3 : (fn.params.all (P.readableRec ·)) = true)
    (h4 : (namedTie P c.named s.vars) = true)
    (h5 : ((c.stops == [])) = true)
    (h6 : ((P.stops == [])) = true)
    (h7 : ((c.knobs == [])) = true)
    (h8 : ((P.stopKnobs == [])) = true)
    (h9 : ((c.inPlace == P.inPlace f)) = true)
    (h10 : ((c.unfollowed == P.unfollowed f)) = true)
    (h11 : ((c.recurses == P.recurses f)) = true)
    (h12 : ((c.named == P.varsNamed f)) = true)
    (h13 : ((c.maps == (fn.params.toList ++ s.plain.varTypes P).any (P.mapsRec ·))) = true)
    (h14 : ((c.ifaces == (fn.params.toList ++ s.plain.varTypes P).any (P.ifacesRec ·))) = true)
    (h15 : ((c.mapsOut == P.mapsAmong fn.resultTypes.toList)) = true)
    (h16 : ((c.loops == (fn.params.toList ++ s.plain.varTypes P).any (P.loopsFrom ·))) = true)
    (h17 : ((c.wideKeys == (fn.params.toList ++ s.plain.varTypes P ++ fn.resultTypes.toList).any (P.wideKeysFrom ·))) = true)
    (h18 : (s.vars.all (P.varReadable ·)) = true)
    (h19 : (fn.resultTypes.all (fun t => P.readableRec t && decide (t < P.types.size))) = true)
    (h20 : ((c.ifacesOut == fn.resultTypes.toList.any (P.ifacesRec ·))) = true)
    (h21 : ((c.loopsOut == fn.resultTypes.toList.any (P.loopsFrom ·))) = true)
    (h22 : ((c.plainKeys == P.plainKeys)) = true)
    (h23 : (c.shortTexts.isNone) = true)
    (h24 : (P.stopsHeard) = true)
    (h25 : (P.mayEnter) = true)
    (h26 : ((c.lifted == P.liftsFinal)) = true)
    (h27 : ((P.make == some c.make)) = true)
    (h28 : ((c.kinds == (if c.domain.isEmpty then [] else fn.params.toList.map fun t => match P.underlying t with | some (.int k) => some k | _ => none))) = true)
    (h29 : ((c.pinned == c.pinnedBy)) = true)
    (h30 : ((c.veiled == (fn.params.toList ++ s.plain.varTypes P ++ fn.resultTypes.toList).any (P.veiledRec ·))) = true)
    (h31 : (c.veiledFits P fn.params.toList (fn.params.toList ++ s.plain.varTypes P ++ fn.resultTypes.toList)) = true) : joinedFacts P f fn s c = true := by
  unfold joinedFacts
  exact and2 (and2 (and2 (and2 (and2 (and2 (and2 (and2 (and2 (and2 (and2 (and2 (and2 (and2 (and2 (and2 (and2 (and2 (and2 (and2 (and2 (and2 (and2 (and2 (and2 (and2 (and2 (and2 (and2 (and2 (and2 (h0) h1) h2) h3) h4) h5) h6) h7) h8) h9) h10) h11) h12) h13) h14) h15) h16) h17) h18) h19) h20) h21) h22) h23) h24) h25) h26) h27) h28) h29) h30) h31
theorem swap2 {α : Type} [BEq α] {a b c : α} (h : a = b) (hb : (b == c) = true) : (a == c) = true := by rw [h]; exact hb
end Go.Proofs.YtgpfjlfkaoffeaaGreatDoor

/- What the row lists, for the walks. Made by a program of this claim (genW3.py). An argument of bytes, of numbers. How many variables a row names. Closed facts of the program, and the door's own run. -/
import Derived.Test.YtgpfjlfkaoffeaaGreatDoorP39
import Derived.Test.YtgpfjlfkaoffeaaGreatDoorRows
import Derived.ChangeSlices
import Derived.OpenShut
import Derived.RowKit
import Derived.Carry
import Derived.OpenVars
import Derived.Test.YtgpfjlfkaoffeaaGreatDoorCards
import Derived.Test.YtgpfjlfkaoffeaaGreatDoorTie
import Derived.Test.YtgpfjlfkaoffeaaGreatDoorChecked
import Derived.ProofKit
import Derived.LaidMore
import Derived.Stop.Joined
import Derived.SevenTiedAt
set_option linter.all false
namespace Go.Proofs.YtgpfjlfkaoffeaaGreatDoor
open Go Go.Proofs.YtgpfjlfkaoffeaaGreatDoor
def laidS : List (String × List UInt8) := [("loop.example/pub-domainbytes/pub/dnsmessage.ErrNotStarted", [112, 97, 114, 115, 105, 110, 103, 47, 112, 97, 99, 107, 105, 110, 103, 32, 111, 102, 32, 116, 104, 105, 115, 32, 116, 121, 112, 101, 32, 105, 115, 110, 39, 116, 32, 97, 118, 97, 105, 108, 97, 98, 108, 101, 32, 121, 101, 116]), ("loop.example/pub-domainbytes/pub/dnsmessage.ErrSectionDone", [112, 97, 114, 115, 105, 110, 103, 47, 112, 97, 99, 107, 105, 110, 103, 32, 111, 102, 32, 116, 104, 105, 115, 32, 115, 101, 99, 116, 105, 111, 110, 32, 104, 97, 115, 32, 99, 111, 109, 112, 108, 101, 116, 101, 100]), ("loop.example/pub-domainbytes/pub/dnsmessage.errBaseLen", [105, 110, 115, 117, 102, 102, 105, 99, 105, 101, 110, 116, 32, 100, 97, 116, 97, 32, 102, 111, 114, 32, 98, 97, 115, 101, 32, 108, 101, 110, 103, 116, 104, 32, 116, 121, 112, 101]), ("loop.example/pub-domainbytes/pub/dnsmessage.errCalcLen", [105, 110, 115, 117, 102, 102, 105, 99, 105, 101, 110, 116, 32, 100, 97, 116, 97, 32, 102, 111, 114, 32, 99, 97, 108, 99, 117, 108, 97, 116, 101, 100, 32, 108, 101, 110, 103, 116, 104, 32, 116, 121, 112, 101]), ("loop.example/pub-domainbytes/pub/dnsmessage.errReserved", [115, 101, 103, 109, 101, 110, 116, 32, 112, 114, 101, 102, 105, 120, 32, 105, 115, 32, 114, 101, 115, 101, 114, 118, 101, 100]), ("loop.example/pub-domainbytes/pub/dnsmessage.errTooManyPtr", [116, 111, 111, 32, 109, 97, 110, 121, 32, 112, 111, 105, 110, 116, 101, 114, 115, 32, 40, 62, 49, 48, 41]), ("loop.example/pub-domainbytes/pub/dnsmessage.errInvalidPtr", [105, 110, 118, 97, 108, 105, 100, 32, 112, 111, 105, 110, 116, 101, 114]), ("loop.example/pub-domainbytes/pub/dnsmessage.errInvalidName", [105, 110, 118, 97, 108, 105, 100, 32, 100, 110, 115, 32, 110, 97, 109, 101]), ("loop.example/pub-domainbytes/pub/dnsmessage.errNilResouceBody", [110, 105, 108, 32, 114, 101, 115, 111, 117, 114, 99, 101, 32, 98, 111, 100, 121]), ("loop.example/pub-domainbytes/pub/dnsmessage.errResourceLen", [105, 110, 115, 117, 102, 102, 105, 99, 105, 101, 110, 116, 32, 100, 97, 116, 97, 32, 102, 111, 114, 32, 114, 101, 115, 111, 117, 114, 99, 101, 32, 98, 111, 100, 121, 32, 108, 101, 110, 103, 116, 104]), ("loop.example/pub-domainbytes/pub/dnsmessage.errSegTooLong", [115, 101, 103, 109, 101, 110, 116, 32, 108, 101, 110, 103, 116, 104, 32, 116, 111, 111, 32, 108, 111, 110, 103]), ("loop.example/pub-domainbytes/pub/dnsmessage.errNameTooLong", [110, 97, 109, 101, 32, 116, 111, 111, 32, 108, 111, 110, 103]), ("loop.example/pub-domainbytes/pub/dnsmessage.errZeroSegLen", [122, 101, 114, 111, 32, 108, 101, 110, 103, 116, 104, 32, 115, 101, 103, 109, 101, 110, 116]), ("loop.example/pub-domainbytes/pub/dnsmessage.errResTooLong", [114, 101, 115, 111, 117, 114, 99, 101, 32, 108, 101, 110, 103, 116, 104, 32, 116, 111, 111, 32, 108, 111, 110, 103]), ("loop.example/pub-domainbytes/pub/dnsmessage.errTooManyQuestions", [116, 111, 111, 32, 109, 97, 110, 121, 32, 81, 117, 101, 115, 116, 105, 111, 110, 115, 32, 116, 111, 32, 112, 97, 99, 107, 32, 40, 62, 54, 53, 53, 51, 53, 41]), ("loop.example/pub-domainbytes/pub/dnsmessage.errTooManyAnswers", [116, 111, 111, 32, 109, 97, 110, 121, 32, 65, 110, 115, 119, 101, 114, 115, 32, 116, 111, 32, 112, 97, 99, 107, 32, 40, 62, 54, 53, 53, 51, 53, 41]), ("loop.example/pub-domainbytes/pub/dnsmessage.errTooManyAuthorities", [116, 111, 111, 32, 109, 97, 110, 121, 32, 65, 117, 116, 104, 111, 114, 105, 116, 105, 101, 115, 32, 116, 111, 32, 112, 97, 99, 107, 32, 40, 62, 54, 53, 53, 51, 53, 41]), ("loop.example/pub-domainbytes/pub/dnsmessage.errTooManyAdditionals", [116, 111, 111, 32, 109, 97, 110, 121, 32, 65, 100, 100, 105, 116, 105, 111, 110, 97, 108, 115, 32, 116, 111, 32, 112, 97, 99, 107, 32, 40, 62, 54, 53, 53, 51, 53, 41]), ("loop.example/pub-domainbytes/pub/dnsmessage.errNonCanonicalName", [110, 97, 109, 101, 32, 105, 115, 32, 110, 111, 116, 32, 105, 110, 32, 99, 97, 110, 111, 110, 105, 99, 97, 108, 32, 102, 111, 114, 109, 97, 116, 32, 40, 105, 116, 32, 109, 117, 115, 116, 32, 101, 110, 100, 32, 119, 105, 116, 104, 32, 97, 32, 46, 41]), ("loop.example/pub-domainbytes/pub/dnsmessage.errParamOutOfOrder", [112, 97, 114, 97, 109, 101, 116, 101, 114, 32, 111, 117, 116, 32, 111, 102, 32, 111, 114, 100, 101, 114])]
def laidG : List Nat := [4, 5, 12, 13, 17, 16, 15, 14, 6, 19, 9, 7, 10, 11, 0, 1, 2, 3, 8, 20]
theorem laid_is : Rows.fnParamsOrderRow.laid = laidS.map sent ++ [("loop.example/pub-domainbytes/pub/dnsmessage.sectionNames", Rows.laid_loop_example_pub_domainbytes_pub_dnsmessage_sectionNames)] := rfl
theorem laidS_names : laidS.map (fun x => Tryz.prog.globalNamed x.1) = laidG.map some := by kernel_rfl
theorem laidG_types : ∀ g ∈ laidG, (Tryz.prog.globals[g]?).map (·.type) = some 57 := by
 have h : laidG.all (fun g => (Tryz.prog.globals[g]?).map (·.type) == some 57) = true := by kernel_rfl
 intro g hg
 simpa using List.all_eq_true.1 h g hg
theorem errGs_in : ∀ g, errGs.contains g = true → ∃ i : Nat, laidG[i]? = some g := by
 have h : errGs.all (fun g => laidG.contains g) = true := by decide
 intro g hg
 have h2 := List.all_eq_true.1 h g (by simpa using hg)
 have h3 : g ∈ laidG := by simpa using h2
 obtain ⟨i, hi, e⟩ := List.getElem_of_mem h3
 exact ⟨i, by rw [List.getElem?_eq_getElem hi, e]⟩
theorem star : "*" ++ "errors.errorString" = "*errors.errorString" := by decide
theorem rowErr (u : TypeId) (h : Tryz.prog.typeName? 3 u = some "*errors.errorString") : u = 347 :=
 typeName_ptr_named (nm := "errors.errorString") (by rw [star]; kernel_rfl) (by kernel_rfl) (by decide) u (by rw [star]; exact h)
theorem cellsE : Tryz.prog.cellsOf 365 = 1 := by kernel_rfl
theorem cellsStr : Tryz.prog.cellsOf 9 = 1 := by kernel_rfl
theorem lawSec : Tryz.prog.globalNamed "loop.example/pub-domainbytes/pub/dnsmessage.sectionNames" = some 18 := by kernel_rfl
theorem lawSecT : (Tryz.prog.globals[18]?).map (·.type) = some 336 := by kernel_rfl
noncomputable def addrAt (W : World) (g : Nat) : Addr := match W.cell? ⟨g, 0, none⟩ with
 | some (.iface _ (.pointer (some a))) => a
 | _ => ⟨0, 0, none⟩
theorem laidMet_of {W : World} (h : laidMetH Tryz.prog Rows.fnParamsOrderRow.laid W) : laidMet Tryz.prog Rows.fnParamsOrderRow.laid W := by
 unfold laidMetH at h
 rw [show (Rows.fnParamsOrderRow.laid.filter fun x => x.2.handleName?.isSome) = [] from by kernel_rfl] at h
 exact h
theorem gl_of_laid {W : World} (h : laidMetH Tryz.prog Rows.fnParamsOrderRow.laid W) : Gl (addrAt W) (allV W) := by
 obtain ⟨ps, hl, hnd, hrows⟩ := laidMet_of h
 rw [laid_is] at hl
 obtain ⟨al, hal, h1, h2, h3, q, hq, hsub⟩ := laid_app Tryz.underlying57 rowErr Tryz.underlying347 Tryz.underlying365 rfl rfl Tryz.underlying9 cellsE cellsStr _ laidS laidG ps laidS_names laidG_types hl hnd hrows
 have hA : ∀ (i g : Nat) (a : Addr), laidG[i]? = some g → al[i]? = some a → addrAt W g = a := fun i g a hg ha => by
  unfold addrAt; rw [h1 i g a hg ha]
 have hex : ∀ g, errGs.contains g = true → ∃ (i : Nat) (a : Addr), laidG[i]? = some g ∧ al[i]? = some a ∧ addrAt W g = a := fun g hg => by
  obtain ⟨i, hi⟩ := errGs_in g hg
  have hlt : i < al.length := by
   rw [hal]
   rcases Nat.lt_or_ge i laidG.length with h' | h'
   exact h'
   rw [List.getElem?_eq_none h'] at hi; cases hi
  exact ⟨i, al[i], hi, List.getElem?_eq_getElem hlt, hA i g _ hi (List.getElem?_eq_getElem hlt)⟩
 refine ⟨fun g hg => ?_, fun g hg => ?_, fun g g' hg hg' e => ?_, ?_⟩
 obtain ⟨i, a, hi, ha, rfl⟩ := hex g hg
 exact allV_cell (h1 i g _ hi ha)
 obtain ⟨i, a, hi, ha, rfl⟩ := hex g hg
 obtain ⟨c, t, hb⟩ := (hrows _ _ (h2 _ (List.mem_of_getElem? ha))).1
 exact ⟨c, t, hb⟩
 obtain ⟨i, a, hi, ha, rfl⟩ := hex g hg
 obtain ⟨j, a', hj, ha', rfl⟩ := hex g' hg'
 rw [← e] at ha'
 obtain ⟨hil, ei⟩ := List.getElem?_eq_some_iff.1 ha
 have hij : i = j := (List.getElem?_inj (by simpa using hil) h3).1 (by rw [List.getElem?_map, List.getElem?_map, ha, ha'])
 subst hij
 rw [hi] at hj; cases hj; rfl
 obtain ⟨g, t, cs, fuel, p, q', hg, ht, hv, hd, _, _⟩ := hq
 obtain rfl := Option.some.inj (lawSec.symm.trans hg)
 obtain rfl := Option.some.inj (lawSecT.symm.trans ht)
 obtain ⟨m, es, c, hcs, hm, hes⟩ := laid_map Tryz.underlying336 Tryz.underlying98 Tryz.underlying9 hd (by
  intro x hx
  simp only [List.mem_cons, List.not_mem_nil, or_false] at hx
  rcases hx with rfl | rfl | rfl | rfl | rfl <;> exact ⟨_, rfl, by decide⟩)
 refine ⟨m, es, c, allV_cell ?_, hm, fun k => findNow_u8 es.toList 0 k hes⟩
 obtain ⟨l0⟩ := cs
 simp only at hcs
 subst hcs
 simpa using World.var?_cell hg hv 0
end Go.Proofs.YtgpfjlfkaoffeaaGreatDoor
namespace Go.Proofs.YtgpfjlfkaoffeaaGreatDoor
open Go Go.Proofs.YtgpfjlfkaoffeaaGreatDoor Go.ChangeShapes Go.WideShapes Go.RowKit
theorem laidOut : laidOutB Tryz.prog = true := by kernel_rfl
end Go.Proofs.YtgpfjlfkaoffeaaGreatDoor
namespace Go.Proofs.YtgpfjlfkaoffeaaGreatDoor
open Go Go.Proofs.YtgpfjlfkaoffeaaGreatDoor Go.ChangeShapes Go.WideShapes Go.RowKit
theorem vars_len {H : Type} {enc : TypeId × Value → H} {P : Program} {W : World} {sp : Nat → Bool} : ∀ {ns : List String} {gs : List (DataW H)} {ps : List MemPlace}, DataW.TrodVars enc P W sp ns gs ps → gs.length = ns.length
 | [], [], _, _ => rfl
 | [], _ :: _, _, h => h.elim
 | _ :: _, [], _, h => h.elim
 | n :: ns, d :: ds, ps, h => by
  obtain ⟨g, t, cs, fuel, p, q, _, _, _, _, hs, _⟩ := h
  simp [vars_len hs]
theorem u16_nat {z : Int} (h : (Lit.int .u16 z).wf = true) : ∃ n : Nat, n < 65536 ∧ z = n := by
 have hr : 0 ≤ z ∧ z ≤ 65535 := by
  simp [Lit.wf, IntKind.min, IntKind.max, IntKind.signed, IntKind.bits] at h
  omega
 exact ⟨z.toNat, by omega, by omega⟩
end Go.Proofs.YtgpfjlfkaoffeaaGreatDoor
namespace Go.Proofs.YtgpfjlfkaoffeaaGreatDoor
open Go Go.Proofs.YtgpfjlfkaoffeaaGreatDoor Go.ChangeShapes Go.WideShapes Go.ChangeAt Go.WideMaps Go.WideElems Go.RowKit
theorem own : ownKnob Tryz.prog.godebug = none := by kernel_rfl
theorem door_met (os : Os) (args : Array Value) : laidMetH Tryz.prog Rows.fnParamsOrderRow.laid ((World.doorLaid Tryz.prog 457 os).forCall (fun _ _ => 0) ⟨#[], args, []⟩).memory :=
  laidMetH_of_parts3 (fuel := 8) (laidMet_of_run' 8 (by kernel_rfl) (by kernel_rfl)) (by kernel_rfl) (by kernel_rfl)
theorem and2 {a b : Bool} (ha : a = true) (hb : b = true) : (a && b) = true := by rw [ha, hb]; rfl
theorem joined_of {P : Program} {f : FuncId} {fn : Func} {s : ChangeSpec} {c : OpenClaim}
    (h0 : (c.wf (OpenSpec.ofChange s)) = true)
    (h1 : (laidOutB P) = true)
    (h2 : (mapsRowed P) = true)
    (h3 : (fn.params.all (P.readableRec ·)) = true)
    (h4 : (namedTie P c.named s.vars) = true)
    (h5 : ((c.stops == [])) = true)
    (h6 : ((P.stops == [])) = true)
    (h7 : ((c.knobs == [])) = true)
    (h8 : ((P.stopKnobs == [])) = true)
    (h9 : ((c.inPlace == P.inPlace f)) = true)
    (h10 : ((c.unfollowed == P.unfollowed f)) = true)
    (h11 : ((c.recurses == P.recurses f)) = true)
    (h12 : ((c.named == P.varsNamed f)) = true)
    (h13 : ((c.maps == (fn.params.toList ++ s.plain.varTypes P).any (P.mapsRec ·))) = true)
    (h14 : ((c.ifaces == (fn.params.toList ++ s.plain.varTypes P).any (P.ifacesRec ·))) = true)
    (h15 : ((c.mapsOut == P.mapsAmong fn.resultTypes.toList)) = true)
    (h16 : ((c.loops == (fn.params.toList ++ s.plain.varTypes P).any (P.loopsFrom ·))) = true)
    (h17 : ((c.wideKeys == (fn.params.toList ++ s.plain.varTypes P ++ fn.resultTypes.toList).any (P.wideKeysFrom ·))) = true)
    (h18 : (s.vars.all (P.varReadable ·)) = true)
    (h19 : (fn.resultTypes.all (fun t => P.readableRec t && decide (t < P.types.size))) = true)
    (h20 : ((c.ifacesOut == fn.resultTypes.toList.any (P.ifacesRec ·))) = true)
    (h21 : ((c.loopsOut == fn.resultTypes.toList.any (P.loopsFrom ·))) = true)
    (h22 : ((c.plainKeys == P.plainKeys)) = true)
    (h23 : (c.shortTexts.isNone) = true)
    (h24 : (P.stopsHeard) = true)
    (h25 : (P.mayEnter) = true)
    (h26 : ((c.lifted == P.liftsFinal)) = true)
    (h27 : ((P.make == some c.make)) = true)
    (h28 : ((c.kinds == (if c.domain.isEmpty then [] else fn.params.toList.map fun t => match P.underlying t with | some (.int k) => some k | _ => none))) = true)
    (h29 : ((c.pinned == c.pinnedBy)) = true)
    (h30 : ((c.veiled == (fn.params.toList ++ s.plain.varTypes P ++ fn.resultTypes.toList).any (P.veiledRec ·))) = true)
    (h31 : (c.veiledFits P fn.params.toList (fn.params.toList ++ s.plain.varTypes P ++ fn.resultTypes.toList)) = true) : joinedFacts P f fn s c = true := by
  unfold joinedFacts
  exact and2 (and2 (and2 (and2 (and2 (and2 (and2 (and2 (and2 (and2 (and2 (and2 (and2 (and2 (and2 (and2 (and2 (and2 (and2 (and2 (and2 (and2 (and2 (and2 (and2 (and2 (and2 (and2 (and2 (and2 (and2 (h0) h1) h2) h3) h4) h5) h6) h7) h8) h9) h10) h11) h12) h13) h14) h15) h16) h17) h18) h19) h20) h21) h22) h23) h24) h25) h26) h27) h28) h29) h30) h31
theorem swap2 {α : Type} [BEq α] {a b c : α} (h : a = b) (hb : (b == c) = true) : (a == c) = true := by rw [h]; exact hb
end Go.Proofs.YtgpfjlfkaoffeaaGreatDoor

/- The laws: FnExactUnpack and FnExactParse. -/
import Derived.Test.YtmigokakpahgkaaGreatDoorG30
set_option linter.all false
namespace Go.Proofs.YtmigokakpahgkaaGreatDoor
open Go
theorem po_eqb {P : Program} {ρ : Env} {w : World} {T T' : TypeId} {x y : Operand} {b : Bool} (hU : P.underlying T = some .bool) (hx : ev ρ x = some (.bool b)) (hy : ev ρ y = some (.bool b)) : PO P (.binOp .eql T x y T') ρ w (.bool true) := by
 refine bin_gen hx hy (by simp [eqGuard]) ?_
 simp only [binOp]
 simp [Op.equal, Op.maxDepth, run_equalIn_bool' w 9999 T b b hU]
theorem same_unpack {l : List UInt8} {ok ok2 : Bool} {x x2 : PMsg} (h1 : (ok = true ∧ unpackM l = some x) ∨ (ok = false ∧ unpackM l = none ∧ x = {})) (h2 : (ok2 = true ∧ unpackM l = some x2) ∨ (ok2 = false ∧ unpackM l = none ∧ x2 = {})) :
  ok2 = ok ∧ x2 = x ∧ FewM x := by
 rcases h1 with ⟨rfl, e1⟩ | ⟨rfl, e1, rfl⟩
 rcases h2 with ⟨rfl, e2⟩ | ⟨rfl, e2, rfl⟩
 rw [e1] at e2; cases e2; exact ⟨rfl, rfl, unpackM_few e1⟩
 rw [e1] at e2; cases e2
 rcases h2 with ⟨rfl, e2⟩ | ⟨rfl, e2, rfl⟩
 rw [e1] at e2; cases e2
 exact ⟨rfl, rfl, fewM0⟩
section
variable {A : Nat → Addr} {V : Vw} {w0 : World} {l : List UInt8} {mv : Value}
set_option maxHeartbeats 4000000 in
theorem c_FnExactUnpack (hG : Gl A V) (hV : V.In w0) (hb : RB V mv l) : CallsV Tryz.prog 9 #[mv] w0 (LawQ V w0) := by
 obtain ⟨a, cap, rfl, hca, _⟩ := hb.form
 have hs := St.start hV
 have hg : true = true := rfl
 refine aT [_] Tryz.func9 Tryz.ntmps9 Tryz.results9 rfl rfl (dP (dN rfl rfl (aH (aF (dP (dM rfl rfl (lp (bC Tryz.underlying22 rfl) rfl (lp (cQ rfl rfl) rfl (aH (bH rfl (fun hc0 => ?_) (fun hc0 => ?_)))))))))))
 refine dP (dN rfl rfl (aH (aV ⟨_, res1 rfl, ?_⟩)))
 exact ⟨rfl, _, hs⟩
 refine aW (aF ?_)
 have h2l : l.length ≤ 4294967296 := by omega
 refine aB (dM rfl rfl (aZ ok_18 rfl rfl (c_unpack (hG.mono hs.view) hs.isIn hb h2l) rfl (fun v12 w HF => ?_)))
 obtain ⟨V1, m1, ok, x, rfl, hc, hR1, hu1⟩ := HF
 replace hs := hs.frame hc
 have hle1 := hc.view
 refine dM rfl rfl (dO rfl rfl rfl (dO rfl rfl rfl (aJ (aX hs z_42 rfl (fun b3 w hb3 he3 hs => aJ (dR 0 hs k_42 rfl rfl rfl hR1.flat.2 rfl hR1.flat.1 rfl (fun w hs => dN rfl rfl (aH (dP (dM rfl rfl (aZ ok_19 rfl rfl (c_sunpack hs.isIn (hb.mono hle1) h2l) rfl (fun v17 w HF => ?_))))))))))))
 obtain ⟨V2, m2, ok2, x2, rfl, hc, hR2, hu2⟩ := HF
 replace hs := hs.frame hc
 have hle2 := hc.view
 obtain ⟨rfl, rfl, hfx⟩ := same_unpack hu1 hu2
 refine dM rfl rfl (dO rfl rfl rfl (dO rfl rfl rfl (aJ (aX hs z_42 rfl (fun b5 w hb5 he5 hs => aJ (dR 0 hs k_42 rfl rfl rfl hR2.flat.2 rfl hR2.flat.1 rfl (fun w hs => dN rfl rfl (aH (aF ?_)))))))))
 skip
 refine aB (dM rfl rfl (dM rfl rfl (lp (po_eqb Tryz.underlying4 rfl rfl) rfl (dM rfl rfl (lg rfl rfl hg (aO rfl (aP k_42 (hs.g 1 rfl) hR1.flat.2)) rfl (lg rfl rfl hg (aO rfl (aP k_42 (hs.g 0 rfl) hR2.flat.2)) rfl (cX rfl rfl hg (cF (cD rfl rfl ok_20 (c_SameMessage hs.isIn (hR1.mono hle2) hR2 hfx)) rfl (fun v26 w HF => ?_)))))))))
 obtain ⟨rfl, hc⟩ := HF
 replace hs := hs.frame hc
 refine lp (bO rfl rfl rfl) rfl (dM rfl rfl (cX rfl rfl hg (cF (cD rfl rfl ok_12 (c_packs (hG.mono hs.view) hs.isIn)) rfl (fun v29 w HF => ?_))))
 obtain ⟨rfl, V3, hc⟩ := HF
 replace hs := hs.frame hc
 refine lp (bO rfl rfl rfl) rfl (dN rfl rfl (aH (aV ⟨_, res1 rfl, ?_⟩)))
 exact ⟨rfl, _, (hs.drop hb5).drop hb3⟩
end
end Go.Proofs.YtmigokakpahgkaaGreatDoor

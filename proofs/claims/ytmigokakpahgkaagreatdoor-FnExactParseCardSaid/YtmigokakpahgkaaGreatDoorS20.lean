/- The law FnExactParse. -/
import Derived.Test.YtmigokakpahgkaaGreatDoorG30
set_option linter.all false
namespace Go.Proofs.YtmigokakpahgkaaGreatDoor
open Go
section
variable {A : Nat → Addr} {V : Vw} {w0 : World} {l : List UInt8} {mv stv : Value} {steps : List Int}
set_option maxHeartbeats 4000000 in
theorem c_FnExactParse (hG : Gl A V) (hV : V.In w0) (hb : RB V mv l) (hst : SlV V 1 stv steps.length (steps.map fun i => .int .i64 i)) : CallsV Tryz.prog 6 #[mv, stv] w0 (LawQ V w0) := by
 obtain ⟨a, cap, rfl, hca, _⟩ := hb.form
 obtain ⟨a2, cap2, rfl, hca2, _⟩ := hst.form
 have hs := St.start hV
 refine aT [_, _] Tryz.func6 Tryz.ntmps6 Tryz.results6 rfl rfl (dP (dN rfl rfl (aH (aF (dG (fun ρ w => ∃ c : Bool, Sub (upd (upd (upd emp 12 (.bool c)) 1 (.slice a2 steps.length cap2)) 0 (.slice a l.length cap)) ρ ∧ St ⟨w0, V, V⟩ w [] ∧ (c = false → l.length ≤ 2147483647 ∧ steps.length ≤ 2147483647)) ?_ ?_)))))
 cases hg : decide ((2147483647 : Int) < (l.length : Int))
 refine aB (dM rfl rfl (lp (bC Tryz.underlying22 rfl) rfl (lp (cQ rfl rfl) rfl (dM rfl rfl (lg rfl rfl hg (aC rfl) rfl (lg rfl rfl hg (bC Tryz.underlying24 rfl) rfl (lg rfl rfl hg (cQ rfl rfl) rfl (lp (bW rfl (by assumption) rfl) rfl (aH ?_)))))))))
 have hl := of_decide_eq_false hg
 exact ⟨_, aL rfl (aL rfl (aL rfl (bG _))), hs, fun h => by have := of_decide_eq_false h; omega⟩
 refine aB (dM rfl rfl (lp (bC Tryz.underlying22 rfl) rfl (lp (cQ rfl rfl) rfl (dM rfl rfl (aU rfl rfl hg rfl (aU rfl rfl hg rfl (aU rfl rfl hg rfl (lp (bO rfl (by assumption) rfl) rfl (aH ?_)))))))))
 exact ⟨_, aL rfl (aL rfl (aL rfl (bG _))), hs, fun h => by cases h⟩
 clear hs
 rintro ρ w ⟨c, hsub, hs, hsz⟩
 refine EW.weaken hsub (bJ rfl (fun hc0 => ?_) (fun hc0 => ?_))
 refine dP (dN rfl rfl (aH (aV ⟨_, res1 rfl, ?_⟩)))
 exact ⟨rfl, _, hs⟩
 refine aW (aF (aF ?_))
 obtain ⟨hl1, hl2⟩ := hsz hc0
 refine aB (dM rfl rfl (lp (bC Tryz.underlying24 rfl) rfl (lp (cQ rfl rfl) rfl (aH (bH rfl (fun hc1 => ?_) (fun hc1 => ?_))))))
 refine dP (aZ ok_12 rfl rfl (c_packs (hG.mono hs.view) hs.isIn) rfl (fun v16 w HF => ?_))
 obtain ⟨rfl, V3, hc⟩ := HF
 replace hs := hs.frame hc
 refine dN rfl rfl (aH (aV ⟨_, res1 rfl, ?_⟩))
 exact ⟨rfl, _, hs⟩
 refine aW (dP (dM rfl rfl (dM rfl rfl (aZ ok_13 rfl rfl (c_parse (hG.mono hs.view) hs.isIn (hb.mono hs.view) (by omega) (hst.mono hs.view) (by omega)) rfl (fun v19 w HF => ?_)))))
 obtain ⟨V1, hc, hR1⟩ := HF
 replace hs := hs.frame hc
 refine dM rfl rfl (dM rfl rfl (aZ ok_17 rfl rfl (c_sparse hs.isIn (hb.mono hs.view) (by omega) (hst.mono hs.view) (by omega)) rfl (fun v22 w HF => ?_)))
 obtain ⟨V2, hc, hR2⟩ := HF
 replace hs := hs.frame hc
 have hle2 := hc.view
 refine aZ ok_16 rfl rfl (c_SameSeen hs.isIn (hR1.mono hle2) hR2 (by rw [parseM_len]; omega) (parseM_few _)) rfl (fun v23 w HF => ?_)
 obtain ⟨rfl, hc⟩ := HF
 replace hs := hs.frame hc
 refine dM rfl rfl (cX rfl rfl rfl (cF (cD rfl rfl ok_12 (c_packs (hG.mono hs.view) hs.isIn)) rfl (fun vP w HF => ?_)))
 obtain ⟨rfl, V3, hc⟩ := HF
 replace hs := hs.frame hc
 refine lp (bO rfl rfl rfl) rfl (dN rfl rfl (aH (aV ⟨_, res1 rfl, ?_⟩)))
 exact ⟨rfl, _, hs⟩
end
end Go.Proofs.YtmigokakpahgkaaGreatDoor

/- The law FnUnpackBehind. -/
import Derived.Test.YtmigokakpahgkaaGreatDoorG30
set_option linter.all false
namespace Go.Proofs.YtmigokakpahgkaaGreatDoor
open Go
theorem behind_unpack {l l2 : List UInt8} {ok ok2 : Bool} {x x2 : PMsg} (h1 : (ok = true ∧ unpackM l = some x) ∨ (ok = false ∧ unpackM l = none ∧ x = {})) (h2 : (ok2 = true ∧ unpackM (l ++ l2) = some x2) ∨ (ok2 = false ∧ unpackM (l ++ l2) = none ∧ x2 = {})) :
  ok = true → ok2 = true ∧ x2 = x ∧ FewM x := by
 rintro rfl
 rcases h1 with ⟨_, e1⟩ | ⟨h, _⟩
 have e := unpackM_app l2 e1
 rcases h2 with ⟨h2, e2⟩ | ⟨_, e2, _⟩
 rw [e] at e2; cases e2; exact ⟨h2, rfl, unpackM_few e1⟩
 rw [e] at e2; cases e2
 cases h
section
variable {A : Nat → Addr} {V : Vw} {w0 : World} {l l2 : List UInt8} {mv mv2 : Value}
set_option maxHeartbeats 4000000 in
theorem c_FnUnpackBehind (hG : Gl A V) (hV : V.In w0) (hb : RB V mv l) (hb2 : RB V mv2 l2) : CallsV Tryz.prog 10 #[mv, mv2] w0 (LawQ V w0) := by
 obtain ⟨a, cap, rfl, hca, _⟩ := hb.form
 obtain ⟨a2, cap2, rfl, hca2, _⟩ := hb2.form
 have hs := St.start hV
 refine aT [_, _] Tryz.func10 Tryz.ntmps10 Tryz.results10 rfl rfl (dP (dN rfl rfl (aH (aF (dG (fun ρ w => ∃ c : Bool, Sub (upd (upd (upd emp 16 (.bool c)) 1 (.slice a2 l2.length cap2)) 0 (.slice a l.length cap)) ρ ∧ St ⟨w0, V, V⟩ w [] ∧ (c = false → l.length ≤ 2147483647 ∧ l2.length ≤ 2147483647)) ?_ ?_)))))
 cases hg : decide ((2147483647 : Int) < (l.length : Int))
 refine aB (dM rfl rfl (lp (bC Tryz.underlying22 rfl) rfl (lp (cQ rfl rfl) rfl (dM rfl rfl (lg rfl rfl hg (aC rfl) rfl (lg rfl rfl hg (bC Tryz.underlying22 rfl) rfl (lg rfl rfl hg (cQ rfl rfl) rfl (lp (bW rfl (by assumption) rfl) rfl (aH ?_)))))))))
 have hl := of_decide_eq_false hg
 exact ⟨_, aL rfl (aL rfl (aL rfl (bG _))), hs, fun h => by have := of_decide_eq_false h; omega⟩
 refine aB (dM rfl rfl (lp (bC Tryz.underlying22 rfl) rfl (lp (cQ rfl rfl) rfl (dM rfl rfl (aU rfl rfl hg rfl (aU rfl rfl hg rfl (aU rfl rfl hg rfl (lp (bO rfl (by assumption) rfl) rfl (aH ?_)))))))))
 exact ⟨_, aL rfl (aL rfl (aL rfl (bG _))), hs, fun h => by cases h⟩
 clear hs
 rintro ρ w ⟨c, hsub, hs, hsz⟩
 refine EW.weaken hsub (bJ rfl (fun hc0 => ?_) (fun hc0 => ?_))
 refine dP (dN rfl rfl (aH (aV ⟨_, res1 rfl, ?_⟩)))
 exact ⟨rfl, _, hs⟩
 refine aW (aF ?_)
 obtain ⟨hl1, hl2⟩ := hsz hc0
 refine aB (dM rfl rfl (aZ ok_18 rfl rfl (c_unpack (hG.mono hs.view) hs.isIn hb (by omega)) rfl (fun v19 w HF => ?_)))
 obtain ⟨V1, m1, ok, x, rfl, hc, hR1, hu1⟩ := HF
 replace hs := hs.frame hc
 have hle1 := hc.view
 refine dM rfl rfl (dO rfl rfl rfl (dO rfl rfl rfl (aJ (aX hs z_42 rfl (fun b5 w hb5 he5 hs => aJ (dR 0 hs k_42 rfl rfl rfl hR1.flat.2 rfl hR1.flat.1 rfl (fun w hs => dN rfl rfl (aH (dP (aJ (o_bslice0 es_22 hs rfl (fun b23 w hb23 he23 hs => dM rfl rfl (aJ (o_append (k := l.length) (news := l.map byteVal) el_22 (.inr ⟨_, Tryz.underlying22⟩) (Sl.empty hs hb23) rfl rfl ((hb.mono hs.view).src hs.isIn) (dH _) (by omega) (by omega) rfl (fun v25 w hsl => dM rfl rfl (aJ (o_append (k := l2.length) (news := l2.map byteVal) el_22 (.inr ⟨_, Tryz.underlying22⟩) hsl rfl rfl ((hb2.mono hsl.st.view).src hsl.isIn) (dH _) (by omega) (by omega) rfl (fun v27 w hsl => ?_))))))))))))))))))
 obtain ⟨V2, hV2, hsv2, hs⟩ := hsl.give
 have hm2 : RB V2 v27 (l ++ l2) := by unfold RB; rw [List.map_append, List.length_append]; simpa using hsv2
 refine aZ ok_18 rfl rfl (c_unpack (hG.mono hs.view) hs.isIn hm2 (by rw [List.length_append]; omega)) rfl (fun v28 w HF => ?_)
 obtain ⟨V3, m2, ok2, x2, rfl, hc, hR2, hu2⟩ := HF
 replace hs := hs.frame hc
 have hle3 := hc.view
 have hk := behind_unpack hu1 hu2
 refine dM rfl rfl (dO rfl rfl rfl (dO rfl rfl rfl (aJ (aX hs z_42 rfl (fun b7 w hb7 he7 hs => aJ (dR 0 hs k_42 rfl rfl rfl hR2.flat.2 rfl hR2.flat.1 rfl (fun w hs => dN rfl rfl (aH (aF ?_)))))))))
 cases ok
 refine aB (dM rfl rfl (lp (cS rfl) rfl (dM rfl rfl (aU rfl rfl rfl rfl (aU rfl rfl rfl rfl (l_guard_undef rfl rfl rfl (l_guard_undef rfl rfl rfl (l_guard_undef rfl rfl rfl (aU rfl rfl rfl rfl (lp (bO rfl rfl rfl) rfl (dM rfl rfl (cX rfl rfl rfl (cF (cD rfl rfl ok_12 (c_packs (hG.mono hs.view) hs.isIn)) rfl (fun vP w HF => ?_))))))))))))))
 obtain ⟨rfl, VP, hc⟩ := HF
 replace hs := hs.frame hc
 refine lp (bO rfl rfl rfl) rfl (dN rfl rfl (aH (aV ⟨_, res1 rfl, ?_⟩)))
 exact ⟨rfl, _, (hs.drop hb7).drop hb5⟩
 refine aB (dM rfl rfl (lp (cS rfl) rfl (dM rfl rfl ?_)))
 obtain ⟨rfl, rfl, hfx⟩ := hk rfl
 refine lg rfl rfl rfl (aC rfl) rfl (lg rfl rfl rfl (aC rfl) rfl (lg rfl rfl rfl (aO rfl (aP k_42 (hs.g 0 rfl) hR2.flat.2)) rfl (lg rfl rfl rfl (aO rfl (aP k_42 (hs.g 1 rfl) hR1.flat.2)) rfl (cX rfl rfl rfl (cF (cD rfl rfl ok_20 (c_SameMessage hs.isIn hR2 (hR1.mono (Vw.le_trans hV2 hle3)) hfx)) rfl (fun v38 w HF => ?_))))))
 obtain ⟨rfl, hc⟩ := HF
 replace hs := hs.frame hc
 refine lg rfl rfl rfl (bO rfl rfl rfl) rfl (lp (bW rfl rfl rfl) rfl (dM rfl rfl (cX rfl rfl rfl (cF (cD rfl rfl ok_12 (c_packs (hG.mono hs.view) hs.isIn)) rfl (fun vP w HF => ?_)))))
 obtain ⟨rfl, VP, hc⟩ := HF
 replace hs := hs.frame hc
 refine lp (bO rfl rfl rfl) rfl (dN rfl rfl (aH (aV ⟨_, res1 rfl, ?_⟩)))
 exact ⟨rfl, _, (hs.drop hb7).drop hb5⟩
end
end Go.Proofs.YtmigokakpahgkaaGreatDoor

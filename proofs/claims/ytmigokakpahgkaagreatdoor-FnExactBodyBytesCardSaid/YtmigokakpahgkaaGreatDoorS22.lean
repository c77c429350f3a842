/- The laws FnExactBodyBytes and FnExactSkipBytes. -/
import Derived.Test.YtmigokakpahgkaaGreatDoorS21
set_option linter.all false
namespace Go.Proofs.YtmigokakpahgkaaGreatDoor
open Go
section
variable {A : Nat → Addr} {V : Vw} {w0 : World} {l : List UInt8} {mv stv : Value} {n : Int}
set_option maxHeartbeats 4000000 in
theorem c_FnExactBodyBytes (hG : Gl A V) (hV : V.In w0) (hb : RB V mv l) : CallsV Tryz.prog 4 #[mv, .int .i64 n] w0 (LawQ V w0) := by
 obtain ⟨a, cap, rfl, hca, _⟩ := hb.form
 have hs := St.start hV
 refine aT [_, _] Tryz.func4 Tryz.ntmps4 Tryz.results4 rfl rfl (dP (dN rfl rfl (aH (aF (dP (dM rfl rfl (lp (bC Tryz.underlying22 rfl) rfl (lp (cQ rfl rfl) rfl (aH (bH rfl (fun hc0 => ?_) (fun hc0 => ?_)))))))))))
 refine dP (dN rfl rfl (aH (aV ⟨_, res1 rfl, ?_⟩)))
 exact ⟨rfl, _, hs⟩
 refine aW (aF (dG (fun ρ w => ∃ c : Bool, Sub (upd (upd (upd emp 1 (.int .i64 n)) 0 (.slice a l.length cap)) 15 (.bool c)) ρ ∧ St ⟨w0, V, V⟩ w [] ∧ (c = false → 1 ≤ n ∧ n ≤ 13)) ?_ ?_))
 cases hg : decide (n < (1 : Int))
 refine aB (dM rfl rfl (lp (cY rfl rfl) rfl (dM rfl rfl (lg rfl rfl hg (aC rfl) rfl (lg rfl rfl hg (cQ rfl rfl) rfl (lp (bW rfl (by assumption) rfl) rfl (aH ?_)))))))
 have hl := of_decide_eq_false hg
 exact ⟨_, aL rfl (aL rfl (aL rfl (bG _))), hs, fun h => by have := of_decide_eq_false h; omega⟩
 refine aB (dM rfl rfl (lp (cY rfl rfl) rfl (dM rfl rfl (aU rfl rfl hg rfl (aU rfl rfl hg rfl (lp (bO rfl (by assumption) rfl) rfl (aH ?_)))))))
 exact ⟨_, aL rfl (aL rfl (aL rfl (bG _))), hs, fun h => by cases h⟩
 clear hs
 rintro ρ w ⟨c, hsub, hs, hnr⟩
 refine EW.weaken hsub (bJ rfl (fun hc1 => ?_) (fun hc1 => ?_))
 refine dP (aZ ok_12 rfl rfl (c_packs (hG.mono hs.view) hs.isIn) rfl (fun v16 w HF => ?_))
 obtain ⟨rfl, VQ, hc⟩ := HF
 replace hs := hs.frame hc
 refine dN rfl rfl (aH (aV ⟨_, res1 rfl, ?_⟩))
 exact ⟨rfl, _, hs⟩
 refine aW (aF ?_)
 obtain ⟨hn1, hn2⟩ := hnr hc1
 have hl1 : l.length ≤ 2147483647 := by omega
 have hll : (leadL 0 2 0 0).length = 12 := rfl
 have hlm : (leadL 0 2 0 0 ++ l).length ≤ 4294967296 := by rw [List.length_append, hll]; omega
 refine aB (aZ ok_15 rfl rfl (c_Lead hs.isIn 0 2 0 0 rfl rfl rfl rfl (by decide) (by decide) (by decide) (by decide)) rfl (fun v17 w HF => ?_))
 obtain ⟨b17, hb17, rfl, hc⟩ := HF
 have hb17' := Nat.le_trans hs.size hb17
 replace hs := hs.frameN hc hb17 (bU _ _)
 refine dM rfl rfl (aJ (o_append (k := l.length) (news := l.map byteVal) el_22 (.inr ⟨_, Tryz.underlying22⟩) (Sl.full (xs := (leadL 0 2 0 0).map byteVal) hs rfl (by decide) hb17') rfl rfl ((hb.mono hs.view).src hs.isIn) (dH _) (by omega) (by omega) rfl (fun v19 w hs => ?_)))
 obtain ⟨V1, hV1, hsvV1, hs⟩ := hs.give
 have hm1 : RB V1 v19 (leadL 0 2 0 0 ++ l) := by unfold RB; rw [List.map_append, List.length_append]; exact hsvV1
 refine dN rfl rfl (aH (dP (dM rfl rfl (lp (bN rfl rfl (i64w (by omega))) rfl (dM rfl rfl (lp (bN rfl rfl (i64w (by omega))) rfl (aJ (o_bslice (vls := [[.int .i64 (1)], [.int .i64 (5)], [.int .i64 (6)], [.int .i64 (20 + n)], [.int .i64 (6)], [.int .i64 (20 + n)]]) el_24 hs rfl rfl rfl rfl (by simp) (by decide) (by decide) rfl (fun b24 w hb24 he24 hs => ?_)))))))))
 obtain ⟨V2, hV2, hvV2, hs⟩ := St.give hs hb24
 have hst1 : SlV V2 1 (.slice (some ⟨b24, 0, none⟩) 6 6) 6 (([1, 5, 6, 20 + n, 6, 20 + n] : List Int).map fun i => .int .i64 i) := SlV.cells (sp := []) hvV2 rfl (by decide)
 refine dN rfl rfl (aH (dP (dM rfl rfl (dM rfl rfl (aZ ok_13 rfl rfl (c_parse (hG.mono hs.view) hs.isIn (hm1.mono hV2) hlm hst1 (by simp)) rfl (fun v27 w HF => ?_))))))
 obtain ⟨V3, hc, hR1⟩ := HF
 replace hs := hs.frame hc
 have hle3 := hc.view
 refine dM rfl rfl (dM rfl rfl (aZ ok_17 rfl rfl (c_sparse hs.isIn (hm1.mono (Vw.le_trans hV2 hle3)) hlm (hst1.mono hle3) (by simp)) rfl (fun v30 w HF => ?_)))
 obtain ⟨V6, hc, hR2⟩ := HF
 replace hs := hs.frame hc
 have hle6 := hc.view
 refine aZ ok_16 rfl rfl (c_SameSeen hs.isIn (hR1.mono hle6) hR2 (by rw [parseM_len]; exact (by decide : 6 ≤ 4294967296)) (parseM_few _)) rfl (fun v31 w HF => ?_)
 obtain ⟨rfl, hc⟩ := HF
 replace hs := hs.frame hc
 refine dM rfl rfl (cX rfl rfl rfl (cF (cD rfl rfl ok_12 (c_packs (hG.mono hs.view) hs.isIn)) rfl (fun vP w HF => ?_)))
 obtain ⟨rfl, VP, hc⟩ := HF
 replace hs := hs.frame hc
 refine lp (bO rfl rfl rfl) rfl (dN rfl rfl (aH (aV ⟨_, res1 rfl, ?_⟩)))
 exact ⟨rfl, _, hs⟩
end
end Go.Proofs.YtmigokakpahgkaaGreatDoor

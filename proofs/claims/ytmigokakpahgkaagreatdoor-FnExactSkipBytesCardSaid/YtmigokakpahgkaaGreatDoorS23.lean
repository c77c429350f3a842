/- The law FnExactSkipBytes. -/
import Derived.Test.YtmigokakpahgkaaGreatDoorS21
set_option linter.all false
namespace Go.Proofs.YtmigokakpahgkaaGreatDoor
open Go
def skipSteps (j : Nat) : List Int := [1, 5] ++ List.replicate j 9 ++ [10, 15, 19, 20]
theorem skipSteps_len (j : Nat) : (skipSteps j).length = 2 + j + 4 := by simp [skipSteps]; omega
section
variable {A : Nat → Addr} {V : Vw} {w0 : World} {l : List UInt8} {mv stv : Value} {n : Int}
set_option maxHeartbeats 4000000 in
theorem c_FnExactSkipBytes (hG : Gl A V) (hV : V.In w0) (hb : RB V mv l) : CallsV Tryz.prog 8 #[mv, .int .i64 n] w0 (LawQ V w0) := by
 obtain ⟨a, cap, rfl, hca, _⟩ := hb.form
 have hs := St.start hV
 refine aT [_, _] Tryz.func8 Tryz.ntmps8 Tryz.results8 rfl rfl (dP (dN rfl rfl (aH (aF (dP (dM rfl rfl (lp (bC Tryz.underlying22 rfl) rfl (lp (cQ rfl rfl) rfl (aH (bH rfl (fun hc0 => ?_) (fun hc0 => ?_)))))))))))
 refine dP (dN rfl rfl (aH (aV ⟨_, res1 rfl, ?_⟩)))
 exact ⟨rfl, _, hs⟩
 refine aW (aF (dG (fun ρ w => ∃ c : Bool, Sub (upd (upd (upd emp 1 (.int .i64 n)) 0 (.slice a l.length cap)) 16 (.bool c)) ρ ∧ St ⟨w0, V, V⟩ w [] ∧ (c = false → 0 ≤ n ∧ n ≤ 20)) ?_ ?_))
 cases hg : decide (n < (0 : Int))
 refine aB (dM rfl rfl (lp (cY rfl rfl) rfl (dM rfl rfl (lg rfl rfl hg (aC rfl) rfl (lg rfl rfl hg (cQ rfl rfl) rfl (lp (bW rfl (by assumption) rfl) rfl (aH ?_)))))))
 have hl := of_decide_eq_false hg
 exact ⟨_, aL rfl (aL rfl (aL rfl (bG _))), hs, fun h => by have := of_decide_eq_false h; omega⟩
 refine aB (dM rfl rfl (lp (cY rfl rfl) rfl (dM rfl rfl (aU rfl rfl hg rfl (aU rfl rfl hg rfl (lp (bO rfl (by assumption) rfl) rfl (aH ?_)))))))
 exact ⟨_, aL rfl (aL rfl (aL rfl (bG _))), hs, fun h => by cases h⟩
 clear hs
 rintro ρ w ⟨c, hsub, hs, hnr⟩
 refine EW.weaken hsub (bJ rfl (fun hc1 => ?_) (fun hc1 => ?_))
 refine dP (aZ ok_12 rfl rfl (c_packs (hG.mono hs.view) hs.isIn) rfl (fun v17 w HF => ?_))
 obtain ⟨rfl, VQ, hc⟩ := HF
 replace hs := hs.frame hc
 refine dN rfl rfl (aH (aV ⟨_, res1 rfl, ?_⟩))
 exact ⟨rfl, _, hs⟩
 refine aW (aF ?_)
 obtain ⟨hn1, hn2⟩ := hnr hc1
 have hl1 : l.length ≤ 2147483647 := by omega
 have hll : (leadL 0 2 1 1).length = 12 := rfl
 have hlm : (leadL 0 2 1 1 ++ l).length ≤ 4294967296 := by rw [List.length_append, hll]; omega
 refine aB (aZ ok_15 rfl rfl (c_Lead hs.isIn 0 2 1 1 rfl rfl rfl rfl (by decide) (by decide) (by decide) (by decide)) rfl (fun v18 w HF => ?_))
 obtain ⟨b18, hb18, rfl, hc⟩ := HF
 have hb18' := Nat.le_trans hs.size hb18
 replace hs := hs.frameN hc hb18 (bU _ _)
 refine dM rfl rfl (aJ (o_append (k := l.length) (news := l.map byteVal) el_22 (.inr ⟨_, Tryz.underlying22⟩) (Sl.full (xs := (leadL 0 2 1 1).map byteVal) hs rfl (by decide) hb18') rfl rfl ((hb.mono hs.view).src hs.isIn) (dH _) (by omega) (by omega) rfl (fun v20 w hs => ?_)))
 obtain ⟨V1, hV1, hsvV1, hs⟩ := hs.give
 have hm1 : RB V1 v20 (leadL 0 2 1 1 ++ l) := by unfold RB; rw [List.map_append, List.length_append]; exact hsvV1
 refine dN rfl rfl (aH (dP (aJ (o_bslice (vls := [[.int .i64 1], [.int .i64 5]]) el_24 hs rfl rfl rfl rfl (by simp) (by decide) (by decide) rfl (fun b21 w hb21 he21 hs => ?_)))))
 have hsl : Sl 3 1 ⟨w0, V, V1⟩ w [] (.slice (some ⟨b21, 0, none⟩) 2 2) 2 (([1, 5] : List Int).map fun i => .int .i64 i) := Sl.full hs rfl (by decide) hb21
 refine dN rfl rfl (aH (aF (dP (dN rfl rfl (aH (bQ (dC (fun g : Nat × Value => upd (upd (upd (upd emp 7 (.int .i64 g.1)) 6 g.2) 5 v20) 1 (.int .i64 n)) (fun g w' => Sl 3 1 ⟨w0, V, V1⟩ w' [] g.2 (2 + g.1) (([1, 5] ++ List.replicate g.1 9 : List Int).map fun i => .int .i64 i) ∧ (g.1 : Int) ≤ n) (fun g => n.toNat - g.1) (0, .slice (some ⟨b21, 0, none⟩) 2 2) (aL rfl (aL rfl (aL rfl (aL rfl (bG _))))) ⟨hsl, by simpa using hn1⟩ ?_)))))))
 clear hsl hs
 rintro ⟨j, sv⟩ w ⟨hsl, hj⟩
 simp only at hsl hj ⊢
 refine aF (dP (dM rfl rfl (dM rfl rfl (lp (cY rfl rfl) rfl (aH (bH rfl (fun hc2 => ?_) (fun hc2 => ?_)))))))
 refine aW (aF (bQ (aB (dM rfl rfl (l_app1 (cl := [.int .i64 9]) el_24 hsl (fun _ => rfl) rfl rfl rfl (aG rfl) (by omega) (by omega) (by omega) rfl rfl (fun b28 sv' w hsl => ?_))))))
 skip
 refine dN rfl rfl (aH (aB (dM rfl rfl (lp (bN rfl rfl (i64c (c := j + 1) (by omega) (by omega))) rfl (dN rfl rfl (aH ?_))))))
 have hsl' : Sl 3 1 ⟨w0, V, V1⟩ w [] sv' (2 + (j + 1)) (([1, 5] ++ List.replicate (j + 1) 9 : List Int).map fun i => .int .i64 i) := by
  rw [List.replicate_succ', ← List.append_assoc, List.map_append]; exact hsl
 exact ⟨(j + 1, sv'), aL rfl (aL rfl (aL rfl (aL rfl (bG _)))), ⟨hsl', by omega⟩, by show n.toNat - (j + 1) < n.toNat - j; omega⟩
 refine e_exit (aF ?_)
 obtain ⟨X, hX, hs⟩ := hsl.open
 refine aB (dM rfl rfl (aJ (o_bslice (vls := [[.int .i64 10], [.int .i64 15], [.int .i64 19], [.int .i64 20]]) el_24 hs rfl rfl rfl rfl (by simp) (by decide) (by decide) rfl (fun b31 w hb31 he31 hs => ?_))))
 obtain ⟨V2, hV2, hv31, hs⟩ := St.give hs hb31
 have hq : SlV V2 1 (.slice (some ⟨b31, 0, none⟩) 4 4) 4 (([10, 15, 19, 20] : List Int).map fun i => .int .i64 i) := SlV.cells (sp := []) hv31 rfl (by decide)
 have hsl2 := SlX.close (L := []) hX hs
 refine aJ (o_append (k := 4) (news := ([10, 15, 19, 20] : List Int).map fun i => .int .i64 i) el_24 (.inr ⟨_, Tryz.underlying24⟩) hsl2 rfl rfl (hq.src hs.isIn) (aG rfl) (by omega) (by omega) rfl (fun v32 w hs => ?_))
 obtain ⟨V3, hV3, hst0, hs⟩ := hs.give
 have hst1 : SlV V3 1 v32 (skipSteps j).length ((skipSteps j).map fun i => .int .i64 i) := by rw [skipSteps_len]; unfold skipSteps; rw [List.map_append]; exact hst0
 have hsn : (skipSteps j).length ≤ 4294967296 := by rw [skipSteps_len]; omega
 refine dN rfl rfl (aH (dP (dM rfl rfl (dM rfl rfl (aZ ok_13 rfl rfl (c_parse (hG.mono hs.view) hs.isIn (hm1.mono (Vw.le_trans hV2 hV3)) hlm hst1 hsn) rfl (fun v35 w HF => ?_))))))
 obtain ⟨V4, hc, hR1⟩ := HF
 replace hs := hs.frame hc
 have hle4 := hc.view
 refine dM rfl rfl (dM rfl rfl (aZ ok_17 rfl rfl (c_sparse hs.isIn (hm1.mono (Vw.le_trans hV2 (Vw.le_trans hV3 hle4))) hlm (hst1.mono hle4) hsn) rfl (fun v38 w HF => ?_)))
 obtain ⟨V6, hc, hR2⟩ := HF
 replace hs := hs.frame hc
 have hle6 := hc.view
 refine aZ ok_16 rfl rfl (c_SameSeen hs.isIn (hR1.mono hle6) hR2 (by rw [parseM_len]; exact hsn) (parseM_few _)) rfl (fun v39 w HF => ?_)
 obtain ⟨rfl, hc⟩ := HF
 replace hs := hs.frame hc
 refine dM rfl rfl (cX rfl rfl rfl (cF (cD rfl rfl ok_12 (c_packs (hG.mono hs.view) hs.isIn)) rfl (fun vP w HF => ?_)))
 obtain ⟨rfl, VP, hc⟩ := HF
 replace hs := hs.frame hc
 refine lp (bO rfl rfl rfl) rfl (dN rfl rfl (aH (aV ⟨_, res1 rfl, ?_⟩)))
 exact ⟨rfl, _, hs⟩
end
end Go.Proofs.YtmigokakpahgkaaGreatDoor

/- The law FnExactRecordBytes. -/
import Derived.Test.YtmigokakpahgkaaGreatDoorS21
set_option linter.all false
namespace Go.Proofs.YtmigokakpahgkaaGreatDoor
open Go
def lcnt (q i : Nat) : Nat := if q = i then 1 else 0
theorem lcnt_lt (q i : Nat) : lcnt q i < 256 := by unfold lcnt; split <;> decide
def lcntC (q : Nat) : List Value := [.int .i64 (lcnt q 0), .int .i64 (lcnt q 1), .int .i64 (lcnt q 2)]
theorem lcnt_set {q : Nat} (h : q ≤ 2) : ([.int .i64 0, .int .i64 0, .int .i64 0] : List Value).set q (.int .i64 1) = lcntC q := by
 have h3 : q = 0 ∨ q = 1 ∨ q = 2 := by omega
 rcases h3 with rfl | rfl | rfl <;> rfl
def base : List Int := [1, 5, 10, 15]
def stp (q : Nat) : List Int := base.take (2 + q)
theorem stp_len {q : Nat} (h : q ≤ 2) : (stp q).length = 2 + q := by simp [stp, base]; omega
def recSteps (q x : Nat) : List Int := stp q ++ [(x : Int), (x : Int)]
theorem recSteps_len {q x : Nat} (h : q ≤ 2) : (recSteps q x).length = 2 + q + 2 := by rw [recSteps, List.length_append, stp_len h]; rfl
theorem flat_intL (l : List Int) : Flat (l.map fun i => Value.int .i64 i) := fun v hv => by
 obtain ⟨x, _, rfl⟩ := List.mem_map.1 hv; rfl
section
variable {A : Nat → Addr} {V : Vw} {w0 : World} {l : List UInt8} {mv stv : Value} {n : Int}
set_option maxHeartbeats 4000000 in
theorem c_FnExactRecordBytes (hG : Gl A V) (hV : V.In w0) (hb : RB V mv l) : CallsV Tryz.prog 7 #[mv, .int .i64 n] w0 (LawQ V w0) := by
 obtain ⟨a, cap, rfl, hca, _⟩ := hb.form
 have hs := St.start hV
 refine aT [_, _] Tryz.func7 Tryz.ntmps7 Tryz.results7 rfl rfl (dP (dN rfl rfl (aH (aF (dP (dM rfl rfl (lp (bC Tryz.underlying22 rfl) rfl (lp (cQ rfl rfl) rfl (aH (bH rfl (fun hc0 => ?_) (fun hc0 => ?_)))))))))))
 refine dP (dN rfl rfl (aH (aV ⟨_, res1 rfl, ?_⟩)))
 exact ⟨rfl, _, hs⟩
 refine aW (aF (dG (fun ρ w => ∃ c : Bool, Sub (upd (upd (upd emp 1 (.int .i64 n)) 0 (.slice a l.length cap)) 16 (.bool c)) ρ ∧ St ⟨w0, V, V⟩ w [] ∧ (c = false → 0 ≤ n ∧ n ≤ 2)) ?_ ?_))
 cases hg : decide (n < (0 : Int))
 refine aB (dM rfl rfl (lp (cY rfl rfl) rfl (dM rfl rfl (lg rfl rfl hg (aC rfl) rfl (lg rfl rfl hg (cQ rfl rfl) rfl (lp (bW rfl (by assumption) rfl) rfl (aH ?_)))))))
 have hl := of_decide_eq_false hg
 exact ⟨_, aL rfl (aL rfl (aL rfl (bG _))), hs, fun h => by have := of_decide_eq_false h; omega⟩
 refine aB (dM rfl rfl (lp (cY rfl rfl) rfl (dM rfl rfl (aU rfl rfl hg rfl (aU rfl rfl hg rfl (lp (bO rfl (by assumption) rfl) rfl (aH ?_)))))))
 exact ⟨_, aL rfl (aL rfl (aL rfl (bG _))), hs, fun h => by cases h⟩
 clear hs
 rintro ρ w ⟨c, hsub, hs, hnr⟩
 refine EW.weaken hsub (bJ rfl (fun hc1 => ?_) (fun hc1 => ?_))
 refine dP (aZ ok_12 rfl rfl (c_packs (hG.mono hs.view) hs.isIn) rfl (fun v17 w HF => ?_))
 obtain ⟨rfl, VQ, hc⟩ := HF
 replace hs := hs.frame hc
 refine dN rfl rfl (aH (aV ⟨_, res1 rfl, ?_⟩))
 exact ⟨rfl, _, hs⟩
 refine aW (aF ?_)
 obtain ⟨hn1, hn2⟩ := hnr hc1
 have hl1 : l.length ≤ 2147483647 := by omega
 obtain ⟨q, rfl⟩ : ∃ q : Nat, n = q := ⟨n.toNat, by omega⟩
 have hq : q ≤ 2 := by omega
 have hll : (leadL 0 (lcnt q 0) (lcnt q 1) (lcnt q 2)).length = 12 := rfl
 have hlm : (leadL 0 (lcnt q 0) (lcnt q 1) (lcnt q 2) ++ l).length ≤ 4294967296 := by rw [List.length_append, hll]; omega
 refine aB (lp (bM (vs := []) (ps := []) rfl bz_40) rfl (aJ (aX hs z_40 rfl (fun b5 w hb5 he5 hs => aJ (dR 0 hs k_40 rfl rfl rfl (by simp) (by simp) (aG (by decide +kernel)) rfl (fun w hs => aH (dP (dM rfl rfl (lp (po_iaArrN q q ar_40 rfl rfl rfl (by omega) (by omega)) rfl (aJ (o_storeP (k := 0) hs cH rfl rfl rfl rfl rfl (by show q < 3; omega) (lcnt_set hq) rfl (fun w hs => aH (dP (lp (po_ia_arr ar_40 rfl rfl (by omega) (by omega)) rfl (lp (aO rfl (bR (v := .int .i64 (lcnt q 0)) cH (by rw [cell_list (hs.g 0 rfl)]; rfl))) rfl (lp (po_ia_arr ar_40 rfl rfl (by omega) (by omega)) rfl ?_))))))))))))))))
 refine lp (aO rfl (bR (v := .int .i64 (lcnt q 1)) cH (by rw [cell_list (hs.g 0 rfl)]; rfl))) rfl (lp (po_ia_arr ar_40 rfl rfl (by omega) (by omega)) rfl (lp (aO rfl (bR (v := .int .i64 (lcnt q 2)) cH (by rw [cell_list (hs.g 0 rfl)]; rfl))) rfl (aZ ok_15 rfl rfl (c_Lead hs.isIn 0 (lcnt q 0) (lcnt q 1) (lcnt q 2) rfl rfl rfl rfl (by decide) (lcnt_lt _ _) (lcnt_lt _ _) (lcnt_lt _ _)) rfl (fun v27 w HF => ?_))))
 obtain ⟨b27, hb27, rfl, hc⟩ := HF
 have hb27' := Nat.le_trans hs.size hb27
 replace hs := hs.frameN hc hb27 (bU _ _)
 refine dM rfl rfl (aJ (o_append (k := l.length) (news := l.map byteVal) el_22 (.inr ⟨_, Tryz.underlying22⟩) (Sl.full (xs := (leadL 0 (lcnt q 0) (lcnt q 1) (lcnt q 2)).map byteVal) hs rfl (by decide) hb27') rfl rfl ((hb.mono hs.view).src hs.isIn) (dH _) (by omega) (by omega) rfl (fun v29 w hs => ?_)))
 obtain ⟨V1, hV1, hsv1, hs⟩ := hs.give
 have hm1 : RB V1 v29 (leadL 0 (lcnt q 0) (lcnt q 1) (lcnt q 2) ++ l) := by unfold RB; rw [List.map_append, List.length_append]; exact hsv1
 replace hs := hs.drop hb5
 refine dN rfl rfl (aH (dP (aJ (o_bslice (vls := [[.int .i64 1], [.int .i64 5], [.int .i64 10], [.int .i64 15]]) el_24 hs rfl rfl rfl rfl (by simp) (by decide) (by decide) rfl (fun b30 w hb30 he30 hs => ?_)))))
 obtain ⟨V2, hV2, hv30, hs⟩ := St.give hs hb30
 have hst0 : SlV V2 1 (.slice (some ⟨b30, 0, none⟩) (2 + q : Nat) 4) (2 + q) ((stp q).map fun i => .int .i64 i) := SlV.cells (sp := (base.drop (2 + q)).map fun i => .int .i64 i) (by rw [stp, ← List.map_append, List.take_append_drop]; exact hv30) (by rw [List.length_map, stp_len hq]; omega) (by omega)
 refine dM rfl rfl (lp (bN rfl rfl (i64c (c := 2 + q) (by omega) (by omega))) rfl (lp (po_head (2 + q) es_24 rfl rfl rfl (by omega)) rfl (dN rfl rfl (aH (dP (aJ (o_bslice0 es_24 hs rfl (fun b34 w hb34 he34 hs => dM rfl rfl (aJ (o_append (k := 2 + q) (news := (stp q).map fun i => .int .i64 i) el_24 (.inr ⟨_, Tryz.underlying24⟩) (Sl.empty hs hb34) rfl rfl (hst0.src hs.isIn) (flat_intL _) (by omega) (by omega) rfl (fun v36 w hsl => dM rfl rfl (lp (po_mul rfl rfl (i64c (c := 5 * q) (by omega) (by omega))) rfl (lp (bN rfl rfl (i64c (c := 7 + 5 * q) (by omega) (by omega))) rfl (dM rfl rfl (lp (po_mul rfl rfl (i64c (c := 5 * q) (by omega) (by omega))) rfl ?_)))))))))))))))
 refine lp (bN rfl rfl (i64c (c := 7 + 5 * q) (by omega) (by omega))) rfl ?_
 obtain ⟨X, hX, hs⟩ := hsl.open
 refine aJ (o_bslice (vls := [[.int .i64 (7 + 5 * q : Nat)], [.int .i64 (7 + 5 * q : Nat)]]) el_24 hs rfl rfl rfl rfl (by simp) (by decide) (by decide) rfl (fun b43 w hb43 he43 hs => ?_))
 obtain ⟨V3, hV3, hv43, hs⟩ := St.give hs hb43
 have hq2 : SlV V3 1 (.slice (some ⟨b43, 0, none⟩) 2 2) 2 (([((7 + 5 * q : Nat) : Int), ((7 + 5 * q : Nat) : Int)] : List Int).map fun i => .int .i64 i) := SlV.cells (sp := []) hv43 rfl (by decide)
 have hsl2 := SlX.close (L := []) hX hs
 refine aJ (o_append (k := 2) (news := ([((7 + 5 * q : Nat) : Int), ((7 + 5 * q : Nat) : Int)] : List Int).map fun i => .int .i64 i) el_24 (.inr ⟨_, Tryz.underlying24⟩) hsl2 rfl rfl (hq2.src hs.isIn) (flat_intL _) (by omega) (by omega) rfl (fun v44 w hs => ?_))
 obtain ⟨V4, hV4, hst4, hs⟩ := hs.give
 have hst1 : SlV V4 1 v44 (recSteps q (7 + 5 * q)).length ((recSteps q (7 + 5 * q)).map fun i => .int .i64 i) := by rw [recSteps_len hq]; unfold recSteps; rw [List.map_append]; simpa using hst4
 have hsn : (recSteps q (7 + 5 * q)).length ≤ 4294967296 := by rw [recSteps_len hq]; omega
 replace hm1 := hm1.mono (Vw.le_trans hV2 (Vw.le_trans hV3 hV4))
 refine dN rfl rfl (aH (dP (dM rfl rfl (dM rfl rfl (aZ ok_13 rfl rfl (c_parse (hG.mono hs.view) hs.isIn hm1 hlm hst1 hsn) rfl (fun v47 w HF => ?_))))))
 obtain ⟨V5, hc, hR1⟩ := HF
 replace hs := hs.frame hc
 have hle5 := hc.view
 refine dM rfl rfl (dM rfl rfl (aZ ok_17 rfl rfl (c_sparse hs.isIn (hm1.mono hle5) hlm (hst1.mono hle5) hsn) rfl (fun v50 w HF => ?_)))
 obtain ⟨V6, hc, hR2⟩ := HF
 replace hs := hs.frame hc
 have hle6 := hc.view
 refine aZ ok_16 rfl rfl (c_SameSeen hs.isIn (hR1.mono hle6) hR2 (by rw [parseM_len]; exact hsn) (parseM_few _)) rfl (fun v51 w HF => ?_)
 obtain ⟨rfl, hc⟩ := HF
 replace hs := hs.frame hc
 refine dM rfl rfl (cX rfl rfl rfl (cF (cD rfl rfl ok_12 (c_packs (hG.mono hs.view) hs.isIn)) rfl (fun vP w HF => ?_)))
 obtain ⟨rfl, VP, hc⟩ := HF
 replace hs := hs.frame hc
 refine lp (bO rfl rfl rfl) rfl (dN rfl rfl (aH (aV ⟨_, res1 rfl, ?_⟩)))
 exact ⟨rfl, _, hs⟩
end
end Go.Proofs.YtmigokakpahgkaaGreatDoor

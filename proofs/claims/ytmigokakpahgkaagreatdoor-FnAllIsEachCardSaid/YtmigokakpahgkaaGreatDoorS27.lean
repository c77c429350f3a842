/- All at once, and one by one. The law FnAllIsEach. -/
import Derived.Test.YtmigokakpahgkaaGreatDoorG13
import Derived.Test.YtmigokakpahgkaaGreatDoorS24
set_option linter.all false
namespace Go.Proofs.YtmigokakpahgkaaGreatDoor
open Go
section
variable {l : List UInt8} {q : Nat}
def eachSl (l : List UInt8) (q : Nat) : List PSeen := runM l (endM l {} {} (stp q)).1 (endM l {} {} (stp q)).2 (List.replicate 70 ((7 + 5 * q : Nat) : Int))
def eachSteps (q : Nat) : List Int := stp q ++ List.replicate 70 ((7 + 5 * q : Nat) : Int)
def allSteps (q : Nat) : List Int := stp q ++ [((8 + 5 * q : Nat) : Int)]
theorem eachSteps_len (hq : q ≤ 2) : (eachSteps q).length = 2 + q + 70 := by rw [eachSteps, List.length_append, stp_len hq, List.length_replicate]
theorem allSteps_len (hq : q ≤ 2) : (allSteps q).length = 2 + q + 1 := by rw [allSteps, List.length_append, stp_len hq]; rfl
theorem each_at (hq : q ≤ 2) (j : Nat) : (parseM l (eachSteps q))[2 + q + j]? = (eachSl l q)[j]? := by
  have := runM_at l (stp q) (List.replicate 70 ((7 + 5 * q : Nat) : Int)) {} {} j
  rw [stp_len hq] at this
  exact this
theorem each_len : (eachSl l q).length = 70 := by unfold eachSl; rw [runM_len]; simp
theorem step_each (hq : q ≤ 2) (m k : PM) : stepM l m k ((7 + 5 * q : Nat) : Int) = ((partM l m (2 + q) 1).1, (partM l m (2 + q) 1).2, k) := by
  rw [stepM_part (by omega) (by omega)]
  have h1 : (7 + 5 * q - 6) / 5 = q := by omega
  have h2 : (7 + 5 * q - 6) % 5 = 1 := by omega
  rw [h1, h2]
theorem step_all (hq : q ≤ 2) (m k : PM) : stepM l m k ((8 + 5 * q : Nat) : Int) = ((partM l m (2 + q) 2).1, (partM l m (2 + q) 2).2, k) := by
  rw [stepM_part (by omega) (by omega)]
  have h1 : (8 + 5 * q - 6) / 5 = q := by omega
  have h2 : (8 + 5 * q - 6) % 5 = 2 := by omega
  rw [h1, h2]
theorem all_plain (hq : q ≤ 2) {xa y : PSeen} {j : Nat} (ha : (parseM l (allSteps q))[2 + q]? = some xa) (hy : (eachSl l q)[j]? = some y) (hz : ∀ i z, i < j → (eachSl l q)[i]? = some z → z.fault = 0) :
    (y.fault = 2 → xa.fault = 0 ∧ xa.recs = rowsTo (eachSl l q) j) ∧ (y.fault ≠ 0 → y.fault ≠ 2 → xa.fault = y.fault) := by
  have h0 := runM_at l (stp q) [((8 + 5 * q : Nat) : Int)] {} {} 0
  rw [stp_len hq] at h0
  have ha' : (runM l (endM l {} {} (stp q)).1 (endM l {} {} (stp q)).2 [((8 + 5 * q : Nat) : Int)])[0]? = some xa := by rw [← h0]; exact ha
  rw [runM, List.getElem?_cons_zero, step_all hq, partM_s2] at ha'
  have h1 := all_each (b := l) (s := 2 + q) (step_each hq) (endM l {} {} (stp q)).2 j 70 fuel (endM l {} {} (stp q)).1 [] y (by decide) hy hz
  cases ha'
  refine ⟨fun h => ?_, h1.2⟩
  obtain ⟨e1, e2⟩ := h1.1 h
  refine ⟨by show EK.num _ = 0; rw [e1]; rfl, ?_⟩
  show (if _ then _ else _) = _
  rw [if_pos e1, e2]
  rfl
theorem rowsTo_succ {sl : List PSeen} {j : Nat} {y : PSeen} (hy : sl[j]? = some y) : rowsTo sl (j + 1) = rowsTo sl j ++ y.recs := by
  unfold rowsTo
  obtain ⟨hj, rfl⟩ := List.getElem?_eq_some_iff.1 hy
  rw [List.take_succ_eq_append_getElem hj, List.flatMap_append]
  simp
theorem each_few : ∀ s ∈ eachSl l q, FewS s := by
  intro s hs
  have h := parseM_few (b := l) (stp q ++ List.replicate 70 ((7 + 5 * q : Nat) : Int)) s
  apply h
  unfold parseM
  rw [runM_app]
  exact List.mem_append_right _ hs
theorem rowsTo_few {j : Nat} : ∀ r ∈ rowsTo (eachSl l q) j, FewR r := by
  intro r hr
  unfold rowsTo at hr
  obtain ⟨s, hs, hr⟩ := List.mem_flatMap.1 hr
  exact (each_few s (List.mem_of_mem_take hs)).2.2 r hr
end
end Go.Proofs.YtmigokakpahgkaaGreatDoor
namespace Go.Proofs.YtmigokakpahgkaaGreatDoor
open Go
theorem sliceAddr_far {b p l cap k : Nat} (h : cap ≠ l) : sliceAddr (some ⟨b, p, none⟩) l cap k = some ⟨b, p + l * k, none⟩ := by
 unfold sliceAddr; simp [h, add_at]
theorem po_from {P : Program} {ρ : Env} {w : World} {T e : TypeId} {x xl : Operand} {kk : IntKind} {a : Option Addr} {k len cap : Nat} {lo : Int} (m : Nat) (hT : elemSize P T = some (e, k)) (hx : ev ρ x = some (.slice a len cap)) (hl : ev ρ xl = some (.int kk lo)) (h1 : lo = m) (h2 : m ≤ len) (h3 : len ≤ cap) :
  PO P (.slice T x (some xl) none none) ρ w (.slice (sliceAddr a m cap k) (len - m) (cap - m)) := by
 subst h1
 have h := po_slice (w := w) hT hx (.yes _ hl (by omega)) (.no _) (by omega) (by omega)
 rw [Int.toNat_natCast] at h
 exact h
theorem map_ints (l m : List Int) : (l ++ m).map (fun i => Value.int .i64 i) = l.map (fun i => Value.int .i64 i) ++ m.map (fun i => Value.int .i64 i) := List.map_append
theorem rows_flat {V : Vw} {rl : List PRec} {xs : List Value} (h : Rows 16 (RRec V) rl xs) : Flat xs := by
 intro v hv
 obtain ⟨i, hi, rfl⟩ := List.getElem_of_mem hv
 have hl := h.len
 have hlt : i / 16 < rl.length := by omega
 obtain ⟨c, hc, hcl, hcx⟩ := h.at (i := i / 16) (List.getElem?_eq_getElem hlt)
 have hmod : i % 16 < c.length := by rw [hcl]; omega
 have := cell_at hcx (List.getElem?_eq_getElem hmod)
 have he : i / 16 * 16 + i % 16 = i := by omega
 rw [he, List.getElem?_eq_getElem hi] at this
 have h2 : xs[i] = c[i % 16] := by simpa using this
 rw [h2]
 exact hc.flat.1 _ (List.getElem_mem hmod)
section
variable {A : Nat → Addr} {V : Vw} {w0 : World} {l : List UInt8} {mv stv : Value} {n : Int}
set_option maxHeartbeats 8000000 in
theorem c_FnAllIsEach (hG : Gl A V) (hV : V.In w0) (hb : RB V mv l) : CallsV Tryz.prog 3 #[mv, .int .i64 n] w0 (LawQ V w0) := by
 obtain ⟨a, cap, rfl, hca, _⟩ := hb.form
 have hs := St.start hV
 have hg : true = true := rfl
 refine aT [_, _] Tryz.func3 Tryz.ntmps3 Tryz.results3 rfl rfl (dP (dN rfl rfl (aH (aF (dP (dM rfl rfl (lp (bC Tryz.underlying22 rfl) rfl (lp (cQ rfl rfl) rfl (aH (bH rfl (fun hc0 => ?_) (fun hc0 => ?_)))))))))))
 refine dP (dN rfl rfl (aH (aV ⟨_, res1 rfl, ?_⟩)))
 exact ⟨rfl, _, hs⟩
 refine aW (aF (dG (fun ρ w => ∃ c : Bool, Sub (upd (upd (upd emp 1 (.int .i64 n)) 0 (.slice a l.length cap)) 22 (.bool c)) ρ ∧ St ⟨w0, V, V⟩ w [] ∧ (c = false → 0 ≤ n ∧ n ≤ 2)) ?_ ?_))
 cases hg : decide (n < (0 : Int))
 refine aB (dM rfl rfl (lp (cY rfl rfl) rfl (dM rfl rfl (lg rfl rfl hg (aC rfl) rfl (lg rfl rfl hg (cQ rfl rfl) rfl (lp (bW rfl (by assumption) rfl) rfl (aH ?_)))))))
 have hl := of_decide_eq_false hg
 exact ⟨_, aL rfl (aL rfl (aL rfl (bG _))), hs, fun h => by have := of_decide_eq_false h; omega⟩
 refine aB (dM rfl rfl (lp (cY rfl rfl) rfl (dM rfl rfl (aU rfl rfl hg rfl (aU rfl rfl hg rfl (lp (bO rfl (by assumption) rfl) rfl (aH ?_)))))))
 exact ⟨_, aL rfl (aL rfl (aL rfl (bG _))), hs, fun h => by cases h⟩
 clear hs
 rintro ρ w ⟨c, hsub, hs, hnr⟩
 refine EW.weaken hsub (bJ rfl (fun hc1 => ?_) (fun hc1 => ?_))
 refine dP (aZ ok_12 rfl rfl (c_packs (hG.mono hs.view) hs.isIn) rfl (fun v23 w HF => ?_))
 obtain ⟨rfl, VQ, hc⟩ := HF
 replace hs := hs.frame hc
 refine dN rfl rfl (aH (aV ⟨_, res1 rfl, ?_⟩))
 exact ⟨rfl, _, hs⟩
 refine aW (aF ?_)
 obtain ⟨hn1, hn2⟩ := hnr hc1
 have hl1 : l.length ≤ 4294967296 := by omega
 obtain ⟨q, rfl⟩ : ∃ q : Nat, n = q := ⟨n.toNat, by omega⟩
 have hq : q ≤ 2 := by omega
 refine aB (aJ (o_bslice (vls := [[.int .i64 1], [.int .i64 5], [.int .i64 10], [.int .i64 15]]) el_24 hs rfl rfl rfl rfl (by simp) (by decide) (by decide) rfl (fun b24 w hb24 he24 hs => ?_)))
 obtain ⟨V1, hV1, hv24, hs⟩ := St.give hs hb24
 have hst0 : SlV V1 1 (.slice (some ⟨b24, 0, none⟩) (2 + q : Nat) 4) (2 + q) ((stp q).map fun i => .int .i64 i) := SlV.cells (sp := (base.drop (2 + q)).map fun i => .int .i64 i) (by rw [stp, ← List.map_append, List.take_append_drop]; exact hv24) (by rw [List.length_map, stp_len hq]; omega) (by omega)
 refine dM rfl rfl (lp (bN rfl rfl (i64c (c := 2 + q) (by omega) (by omega))) rfl (lp (po_head (2 + q) es_24 rfl rfl rfl (by omega)) rfl (dN rfl rfl (aH (dP (dM rfl rfl (aJ (o_bslice0 es_24 hs rfl (fun b29 w hb29 he29 hs => dM rfl rfl (aJ (o_append (k := 2 + q) (news := (stp q).map fun i => .int .i64 i) el_24 (.inr ⟨_, Tryz.underlying24⟩) (Sl.empty hs hb29) rfl rfl (hst0.src hs.isIn) (flat_intL _) (by omega) (by omega) rfl (fun v31 w hsl => dM rfl rfl (lp (po_mul rfl rfl (i64c (c := 5 * q) (by omega) (by omega))) rfl (lp (bN rfl rfl (i64c (c := 8 + 5 * q) (by omega) (by omega))) rfl (l_app1 (cl := [.int .i64 (8 + 5 * q : Nat)]) el_24 hsl (fun _ => rfl) rfl rfl rfl (aG rfl) (by omega) (by omega) (by omega) rfl rfl (fun b35 v36 w hs => ?_))))))))))))))))
 obtain ⟨V2, hV2, hst2, hs⟩ := hs.give
 have hstA : SlV V2 1 v36 (allSteps q).length ((allSteps q).map fun i => .int .i64 i) := by rw [allSteps_len hq]; unfold allSteps; rw [List.map_append]; simpa using hst2
 skip
 refine aZ ok_13 rfl rfl (c_parse (hG.mono hs.view) hs.isIn (hb.mono hs.view) hl1 hstA (by rw [allSteps_len hq]; omega)) rfl (fun v37 w HF => ?_)
 obtain ⟨V3, hc, hRA⟩ := HF
 replace hs := hs.frame hc
 have hle3 := hc.view
 refine dN rfl rfl (aH (dP (aJ (o_bslice0 es_24 hs rfl (fun b38 w hb38 he38 hs => dM rfl rfl (aJ (o_append (k := 2 + q) (news := (stp q).map fun i => .int .i64 i) el_24 (.inr ⟨_, Tryz.underlying24⟩) (Sl.empty hs hb38) rfl rfl ((hst0.mono (Vw.le_trans hV2 hle3)).src hs.isIn) (flat_intL _) (by omega) (by omega) rfl (fun v40 w hsl => ?_))))))))
 obtain ⟨xsA, hSA, hRwA⟩ := hRA
 rw [parseM_len, allSteps_len hq] at hSA
 obtain ⟨aA, cA, rfl, hkA, hAx⟩ := hSA.form
 obtain ⟨bA, pA, rfl, hcA⟩ := hAx (by omega)
 obtain ⟨xa, hxa⟩ : ∃ xa, (parseM l (allSteps q))[2 + q]? = some xa := ⟨_, List.getElem?_eq_getElem (by rw [parseM_len, allSteps_len hq]; omega)⟩
 refine dN rfl rfl (aH (aF (dP (dN rfl rfl (aH (bQ (dC (fun g : Nat × Value => upd (upd (upd (upd (upd (upd emp 8 (.int .i64 g.1)) 7 g.2) 6 (.slice (some ⟨bA, pA, none⟩) (2 + q + 1 : Nat) cA)) 5 (.slice (some ⟨b24, 0, none⟩) (2 + q : Nat) 4)) 1 (.int .i64 q)) 0 (.slice a l.length cap)) (fun g w' => Sl 3 1 ⟨w0, V, V3⟩ w' [] g.2 (2 + q + g.1) ((stp q ++ List.replicate g.1 ((7 + 5 * q : Nat) : Int)).map fun i => .int .i64 i) ∧ g.1 ≤ 70) (fun g => 70 - g.1) (0, v40) (aL rfl (aL rfl (aL rfl (aL rfl (aL rfl (aL rfl (bG _))))))) ⟨by simpa using hsl, Nat.zero_le _⟩ ?_)))))))
 clear hsl hs
 rintro ⟨j, sv⟩ w ⟨hsl, hj⟩
 simp only at hsl hj ⊢
 refine aF (dP (dM rfl rfl (lp (cY rfl rfl) rfl (aH (bH rfl (fun hc2 => ?_) (fun hc2 => ?_))))))
 refine aW (aF (bQ (aB (dM rfl rfl (dM rfl rfl (lp (po_mul rfl rfl (i64c (c := 5 * q) (by omega) (by omega))) rfl (lp (bN rfl rfl (i64c (c := 7 + 5 * q) (by omega) (by omega))) rfl (l_app1 (cl := [.int .i64 (7 + 5 * q : Nat)]) el_24 hsl (fun _ => rfl) rfl rfl rfl (aG rfl) (by omega) (by omega) (by omega) rfl rfl (fun b49 sv' w hsl => ?_)))))))))
 skip
 refine dN rfl rfl (aH (aB (dM rfl rfl (lp (bN rfl rfl (i64c (c := j + 1) (by omega) (by omega))) rfl (dN rfl rfl (aH ?_))))))
 have hsl' : Sl 3 1 ⟨w0, V, V3⟩ w [] sv' (2 + q + (j + 1)) ((stp q ++ List.replicate (j + 1) ((7 + 5 * q : Nat) : Int)).map fun i => .int .i64 i) := by
  rw [List.replicate_succ', ← List.append_assoc, map_ints]; exact hsl
 exact ⟨(j + 1, sv'), aL rfl (aL rfl (aL rfl (aL rfl (aL rfl (aL rfl (bG _)))))), ⟨hsl', by omega⟩, by show 70 - (j + 1) < 70 - j; omega⟩
 refine e_exit (aF ?_)
 obtain rfl : j = 70 := by omega
 obtain ⟨V4, hV4, hst4, hs⟩ := hsl.give
 have hstE : SlV V4 1 sv (eachSteps q).length ((eachSteps q).map fun i => .int .i64 i) := by rw [eachSteps_len hq]; exact hst4
 obtain ⟨a7, cap7, rfl, _, _⟩ := hst4.form
 refine aB (dM rfl rfl (dM rfl rfl (aZ ok_13 rfl rfl (c_parse (hG.mono hs.view) hs.isIn (hb.mono hs.view) hl1 hstE (by rw [eachSteps_len hq]; omega)) rfl (fun v53 w HF => ?_))))
 obtain ⟨V5, hc, hRE⟩ := HF
 replace hs := hs.frame hc
 have hle5 := hc.view
 obtain ⟨xsE, hSE, hRwE⟩ := hRE
 rw [parseM_len, eachSteps_len hq] at hSE
 obtain ⟨aE, cE, rfl, hkE, hEx⟩ := hSE.form
 obtain ⟨bE, pE, rfl, hcE⟩ := hEx (by omega)
 refine dN rfl rfl (aH (aF (aF ?_)))
 skip
 refine aB (dM rfl rfl (lp (bC Tryz.underlying25 rfl) rfl (dM rfl rfl (lp (bC Tryz.underlying24 rfl) rfl (lp (bN rfl rfl (i64c (c := 2 + q + 1) (by omega) (by omega))) rfl (lp (po_nei rfl rfl) rfl (dM rfl rfl (lg rfl rfl rfl (aC rfl) rfl (lg rfl rfl rfl (bC Tryz.underlying25 rfl) rfl (lg rfl rfl rfl (aC rfl) rfl (lg rfl rfl rfl (bC Tryz.underlying24 rfl) rfl (lg rfl rfl rfl (po_nei rfl rfl) rfl (lp (bW rfl rfl rfl) rfl ?_)))))))))))))
 refine aH (aY rfl rfl (aW (aF ?_)))
 have hleA := Vw.le_trans hV4 hle5
 obtain ⟨eA, hrA, hlA, htA⟩ := hRwA.at hxa
 have hflA := hrA.flat
 obtain ⟨qA, rA, rfl, fA, gA⟩ := hrA
 refine aB (dM rfl rfl (dM rfl rfl (lp (bC Tryz.underlying24 rfl) rfl (lp (po_iaN (2 + q) (pA + (2 + q) * 13) es_25 rfl rfl rfl (by omega) rfl) rfl (lp (aO rfl (ld_cells (l := _) bZ hlA (fun i u hu => by rw [Nat.add_assoc]; exact Vw.cell_in hs.isIn (Vw.cell_le hleA (hcA _ _ (cell_at htA hu)))))) rfl (aJ (aX hs z_33 rfl (fun b10 w hb10 he10 hs => aJ (dR 0 hs bZ rfl rfl rfl hflA.2 rfl hflA.1 rfl (fun w hs => aH (dP (aJ (o_bslice0 es_31 hs rfl (fun b72 w hb72 he72 hs => ?_))))))))))))))
 have hsl := Sl.empty (size := 16) hs hb72
 refine dN rfl rfl (aH (aF (dP (dM rfl rfl (dM rfl rfl (lp (bC Tryz.underlying24 rfl) rfl (lp (po_from (2 + q) es_25 rfl rfl rfl (by omega) (by omega)) rfl (lp (bC Tryz.underlying25 rfl) rfl (dM rfl rfl (aH (bQ ?_)))))))))))
 rw [sliceAddr_far (by omega)]
 refine dC (fun g : Nat × Value × List Value => upd (upd (upd (upd (upd (upd emp 78 (.int .i64 g.1)) 77 (.int .i64 (2 + q + 70 - (2 + q) : Nat))) 76 (.slice (some ⟨bE, pE + (2 + q) * 13, none⟩) (2 + q + 70 - (2 + q)) (cE - (2 + q)))) 11 g.2.1) 10 (.pointer (some ⟨b10, 0, none⟩))) 0 (.slice a l.length cap)) (fun g w' => Sl 72 16 ⟨w0, V, V5⟩ w' [(b10, .cells (.int .i64 xa.fault :: (headC xa.id xa.bits ++ [qA, rA])).toArray 33 (0, 0))] g.2.1 (rowsTo (eachSl l q) g.1).length g.2.2 ∧ Rows 16 (RRec V5) (rowsTo (eachSl l q) g.1) g.2.2 ∧ (rowsTo (eachSl l q) g.1).length ≤ g.1 * 4294967296 ∧ g.1 ≤ 70 ∧ ∀ i z, i < g.1 → (eachSl l q)[i]? = some z → z.fault = 0) (fun g => 70 - g.1) (0, .slice (some ⟨b72, 0, none⟩) 0 0, []) (aL rfl (aL rfl (aL rfl (aL rfl (aL rfl (aL rfl (bG _))))))) ⟨hsl, rfl, Nat.zero_le _, Nat.zero_le _, fun i z h => absurd h (Nat.not_lt_zero _)⟩ ?_
 clear hsl hs
 rintro ⟨j, sv, ys⟩ w ⟨hsl, hrows, hrl, hj, hz⟩
 simp only at hsl hrows hrl hj hz ⊢
 refine dP (lp (cY rfl rfl) rfl (aH (aF (bH rfl (fun hc4 => ?_) (fun hc4 => ?_)))))
 have hjl : j < 70 := by omega
 obtain ⟨y, hy⟩ : ∃ y, (eachSl l q)[j]? = some y := ⟨_, List.getElem?_eq_getElem (by rw [each_len]; exact hjl)⟩
 have hpl := all_plain hq hxa hy hz
 obtain ⟨e, hry, hly, hty⟩ := hRwE.at ((each_at hq j).trans hy)
 have hfl := hry.flat
 obtain ⟨qy, ry, rfl, fy, gy⟩ := hry
 obtain ⟨X, hX, hs⟩ := hsl.open
 refine aW (aF (bQ (dP (lp (po_iaN j (pE + (2 + q + j) * 13) es_25 rfl rfl rfl (by omega) (by omega)) rfl (lp (aO rfl (ld_cells (l := _) bZ hly (fun i u hu => by rw [Nat.add_assoc]; exact Vw.cell_in hs.isIn (hcE _ _ (cell_at hty hu))))) rfl (aJ (aX hs z_33 rfl (fun b13 w hb13 he13 hs => aJ (dR 0 hs bZ rfl rfl rfl hfl.2 rfl hfl.1 rfl (fun w hs => aH (aF (dP (lp (aR cV rfl) rfl (lp (aO rfl (bR (v := .int .i64 y.fault) cH (by rw [cell_list (hs.g 0 rfl)]; rfl))) rfl (lp (bI rfl rfl) rfl ?_)))))))))))))))
 refine aH (bH rfl (fun hc5 => ?_) (fun hc5 => ?_))
 refine aF ?_
 skip
 have hy2 : y.fault = 2 := by omega
 obtain ⟨hfa, hra⟩ := hpl.1 hy2
 have hslc := SlX.close (L := [_, _]) hX hs
 obtain ⟨V6, hV6, hsv6, hs⟩ := hslc.give
 have hrt : RRecs V6 sv (rowsTo (eachSl l q) j) := ⟨ys, hsv6, hrows.mono fun _ _ h => h.mono hV6⟩
 refine aB (lp (aR cV rfl) rfl (lp (aO rfl (bR (v := .int .i64 (0 : Nat)) cH (by rw [cell_list (hs.g 1 rfl)]; show some (Value.int .i64 (xa.fault : Int)) = _; rw [hfa]))) rfl (lp (po_eqi rfl rfl) rfl (dM rfl rfl (lg rfl rfl hg (aR fo_33_3 rfl) rfl (lg rfl rfl hg (aO rfl (bR (v := rA) k_31 (by rw [cell_list (hs.g 1 rfl)]; rfl))) rfl (lg rfl rfl hg (aC rfl) rfl (cX rfl rfl hg (cF (cD rfl rfl ok_14 (c_SameRecords hs.isIn (RRecs.mono (Vw.le_trans hleA hV6) (by rw [hra] at gA; exact gA)) hrt (by rw [← hra]; exact (parseM_few _ xa (List.mem_of_getElem? hxa)).2.1) rowsTo_few)) rfl (fun v92 w HF => ?_))))))))))
 obtain ⟨rfl, hc⟩ := HF
 replace hs := hs.frame hc
 refine lp (bO rfl rfl rfl) rfl (dM rfl rfl (cX rfl rfl rfl (cF (cD rfl rfl ok_12 (c_packs (hG.mono hs.view) hs.isIn)) rfl (fun vP w HF => ?_))))
 obtain ⟨rfl, VP, hc⟩ := HF
 replace hs := hs.frame hc
 refine lp (bO rfl rfl rfl) rfl (dN rfl rfl (aH (aV ⟨_, res1 rfl, ?_⟩)))
 exact ⟨rfl, _, (hs.drop hb13).drop hb10⟩
 refine aW (aF (dP (lp (aR cV rfl) rfl (lp (aO rfl (bR (v := .int .i64 y.fault) cH (by rw [cell_list (hs.g 0 rfl)]; rfl))) rfl (lp (po_neq rfl rfl) rfl (aH (bH rfl (fun hc6 => ?_) (fun hc6 => ?_))))))))
 refine aF ?_
 skip
 have hya := hpl.2 (by omega) (by omega)
 have hslc := SlX.close (L := [_, _]) hX hs
 replace hs := hslc.st
 refine aB (lp (aR cV rfl) rfl (lp (aO rfl (bR (v := .int .i64 y.fault) cH (by rw [cell_list (hs.g 1 rfl), ← hya]; rfl))) rfl (lp (aR cV rfl) rfl (lp (aO rfl (bR (v := .int .i64 y.fault) cH (by rw [cell_list (hs.g 0 rfl)]; rfl))) rfl (lp (po_eqi rfl rfl) rfl (dM rfl rfl (cX rfl rfl rfl (cF (cD rfl rfl ok_12 (c_packs (hG.mono hs.view) hs.isIn)) rfl (fun vP w HF => ?_)))))))))
 obtain ⟨rfl, VP, hc⟩ := HF
 replace hs := hs.frame hc
 refine lp (bO rfl rfl rfl) rfl (dN rfl rfl (aH (aV ⟨_, res1 rfl, ?_⟩)))
 exact ⟨rfl, _, (hs.drop hb13).drop hb10⟩
 refine aW (aB (dM rfl rfl (lp (aR fo_33_3 rfl) rfl (lp (aO rfl (bR (v := ry) k_31 (by rw [cell_list (hs.g 0 rfl)]; rfl))) rfl ?_))))
 obtain ⟨zs, hzs, hzr⟩ := gy
 have hfy := (each_few y (List.mem_of_getElem? hy)).2.1
 refine aJ (o_append (k := y.recs.length) (news := zs) el_31 (.inr ⟨_, Tryz.underlying31⟩) (SlX.close (L := [_, _]) hX hs) rfl rfl (hzs.src hs.isIn) (rows_flat hzr) (by omega) (by omega) rfl (fun v111 w hsl => dN rfl rfl (aH (aB (lp (bN rfl rfl (i64c (c := j + 1) (by omega) (by omega))) rfl (dM rfl rfl (aH ?_)))))))
 have hrs := rowsTo_succ hy
 have hsl' : Sl 72 16 ⟨w0, V, V5⟩ w [(b10, .cells (.int .i64 xa.fault :: (headC xa.id xa.bits ++ [qA, rA])).toArray 33 (0, 0))] v111 (rowsTo (eachSl l q) (j + 1)).length (ys ++ zs) := by
  rw [hrs, List.length_append]; exact hsl.drop hb13
 exact ⟨(j + 1, v111, ys ++ zs), aL rfl (aL rfl (aL rfl (aL rfl (aL rfl (aL rfl (bG _)))))), ⟨hsl', by rw [hrs]; exact Rows.app hzr hrows, by show (rowsTo (eachSl l q) (j + 1)).length ≤ (j + 1) * 4294967296; rw [hrs, List.length_append]; omega, by show j + 1 ≤ 70; omega, fun i z hi hiz => by
  rcases Nat.lt_or_ge i j with h | h
  exact hz i z h hiz
  obtain rfl : i = j := by have : i < j + 1 := hi; omega
  rw [hy] at hiz; cases hiz; simpa using hc6⟩, by show 70 - (j + 1) < 70 - j; omega⟩
 have hs := hsl.st
 refine e_exit (dP (aZ ok_12 rfl rfl (c_packs (hG.mono hs.view) hs.isIn) rfl (fun v113 w HF => ?_)))
 obtain ⟨rfl, VP, hc⟩ := HF
 replace hs := hs.frame hc
 refine dN rfl rfl (aH (aV ⟨_, res1 rfl, ?_⟩))
 exact ⟨rfl, _, hs.drop hb10⟩
end
end Go.Proofs.YtmigokakpahgkaaGreatDoor

/- The law FnUnpackIsAll. -/
import Derived.Test.YtmigokakpahgkaaGreatDoorG30
set_option linter.all false
namespace Go.Proofs.YtmigokakpahgkaaGreatDoor
open Go
section
variable {A : Nat → Addr} {V : Vw} {w0 : World} {l l2 : List UInt8} {mv mv2 : Value}
set_option maxHeartbeats 4000000 in
theorem c_FnUnpackIsAll (hG : Gl A V) (hV : V.In w0) (hb : RB V mv l) : CallsV Tryz.prog 11 #[mv] w0 (LawQ V w0) := by
 obtain ⟨a, cap, rfl, hca, _⟩ := hb.form
 obtain ⟨s0, s1, s2, s3, s4, hp⟩ : ∃ s0 s1 s2 s3 s4, parseM l [1, 3, 8, 13, 18] = [s0, s1, s2, s3, s4] := ⟨_, _, _, _, _, parse5 l⟩
 have hs := St.start hV
 have hg : true = true := rfl
 refine aT [_] Tryz.func11 Tryz.ntmps11 Tryz.results11 rfl rfl (dP (dN rfl rfl (aH (aF (dP (dM rfl rfl (lp (bC Tryz.underlying22 rfl) rfl (lp (cQ rfl rfl) rfl (aH (bH rfl (fun hc0 => ?_) (fun hc0 => ?_)))))))))))
 refine dP (dN rfl rfl (aH (aV ⟨_, res1 rfl, ?_⟩)))
 exact ⟨rfl, _, hs⟩
 refine aW (aF ?_)
 have hl1 : l.length ≤ 4294967296 := by omega
 refine aB (dM rfl rfl (aZ ok_18 rfl rfl (c_unpack (hG.mono hs.view) hs.isIn hb hl1) rfl (fun v13 w HF => ?_)))
 obtain ⟨V0, m1, ok, x0, rfl, hc, hR1, hu1⟩ := HF
 replace hs := hs.frame hc
 have hle0 := hc.view
 refine dM rfl rfl (dO rfl rfl rfl (dO rfl rfl rfl (aJ (aX hs z_42 rfl (fun b3 w hb3 he3 hs => aJ (dR 0 hs k_42 rfl rfl rfl hR1.flat.2 rfl hR1.flat.1 rfl (fun w hs => dN rfl rfl (aH (dP (dM rfl rfl (aJ (o_bslice (vls := [[.int .i64 (1)], [.int .i64 (3)], [.int .i64 (8)], [.int .i64 (13)], [.int .i64 (18)]]) el_24 hs rfl rfl rfl rfl (by simp) (by decide) (by decide) rfl (fun b17 w hb17 he17 hs => ?_)))))))))))))
 obtain ⟨V1, hV1, hvV1, hs⟩ := St.give hs hb17
 have hst : SlV V1 1 (.slice (some ⟨b17, 0, none⟩) 5 5) 5 (([1, 3, 8, 13, 18] : List Int).map fun i => .int .i64 i) := SlV.cells (sp := []) hvV1 rfl (by decide)
 refine aZ ok_13 rfl rfl (c_parse (hG.mono hs.view) hs.isIn (hb.mono (Vw.le_trans hle0 hV1)) hl1 hst (by decide)) rfl (fun v18 w HF => ?_)
 obtain ⟨V2, hc, hR⟩ := HF
 replace hs := hs.frame hc
 have hle2 := hc.view
 rw [hp] at hR
 obtain ⟨xs, hS, hRw⟩ := hR
 obtain ⟨a1, c1, rfl, hk1, h1⟩ := hS.form
 obtain ⟨b1, p1, rfl, hcs⟩ := h1 (by simp)
 obtain ⟨e0, ⟨qa0, ra0, rfl, f0, g0⟩, hl0, ht0⟩ := hRw.at (i := 0) (a := s0) rfl
 obtain ⟨e1, ⟨qa1, ra1, rfl, f1, g1⟩, hl1, ht1⟩ := hRw.at (i := 1) (a := s1) rfl
 obtain ⟨e2, ⟨qa2, ra2, rfl, f2, g2⟩, hl2, ht2⟩ := hRw.at (i := 2) (a := s2) rfl
 obtain ⟨e3, ⟨qa3, ra3, rfl, f3, g3⟩, hl3, ht3⟩ := hRw.at (i := 3) (a := s3) rfl
 obtain ⟨e4, ⟨qa4, ra4, rfl, f4, g4⟩, hl4, ht4⟩ := hRw.at (i := 4) (a := s4) rfl
 refine dN rfl rfl (aH (aF (dP (dM rfl rfl (lp (bC Tryz.underlying25 rfl) rfl (lp (po_nei rfl rfl) rfl (aH (aY rfl rfl (aW (aF (dP (dM rfl rfl (lp (bC Tryz.underlying25 rfl) rfl ?_)))))))))))))
 refine dM rfl rfl (aH (bQ (dC (fun j : Nat => upd (upd (upd (upd (upd (upd emp 24 (.int .i64 j)) 23 (.int .i64 (5 : Nat))) 22 (.slice (some ⟨b1, p1, none⟩) 5 c1)) 5 (.slice (some ⟨b1, p1, none⟩) 5 c1)) 4 (.bool ok)) 3 (.pointer (some ⟨b3, 0, none⟩))) (fun j w' => St ⟨w0, V, V2⟩ w' [(b3, .cells m1.toArray 42 (0, 0))] ∧ j ≤ 5 ∧ ∀ i s, i < j → [s0, s1, s2, s3, s4][i]? = some s → s.fault = 0) (fun j => 5 - j) 0 (aL rfl (aL rfl (aL rfl (aL rfl (aL rfl (aL rfl (bG _))))))) ⟨hs, Nat.zero_le _, fun i s h => absurd h (by omega)⟩ ?_)))
 clear hs
 rintro j w ⟨hs, hj, hz⟩
 refine dP (lp (cY rfl rfl) rfl (aH (aF (bH rfl (fun hc2 => ?_) (fun hc2 => ?_)))))
 have hjl : j < 5 := by omega
 obtain ⟨x, hx⟩ : ∃ x, [s0, s1, s2, s3, s4][j]? = some x := ⟨_, List.getElem?_eq_getElem hjl⟩
 obtain ⟨e, hrx, hl, ht⟩ := hRw.at hx
 have hfl := hrx.flat
 obtain ⟨qa, ra, rfl, f, g⟩ := hrx
 refine aW (aF (bQ (dP (lp (po_iaN j (p1 + j * 13) es_25 rfl rfl rfl hjl rfl) rfl (lp (aO rfl (ld_cells (l := _) bZ hl (fun i u hu => by rw [Nat.add_assoc]; exact Vw.cell_in hs.isIn (hcs _ _ (cell_at ht hu))))) rfl (aJ (aX hs z_33 rfl (fun b7 w hb7 he7 hs => aJ (dR 0 hs bZ rfl rfl rfl hfl.2 rfl hfl.1 rfl (fun w hs => aH (dP (lp (aR cV rfl) rfl (lp (aO rfl (cT (a := []) (i := 0) cH (hs.g 0 rfl) rfl rfl rfl)) rfl (lp (po_neq rfl rfl) rfl (aH ?_)))))))))))))))
 refine bH rfl (fun hc3 => ?_) (fun hc3 => ?_)
 refine aF ?_
 have hf0 : x.fault ≠ 0 := fun h => hc3 (by simp [h])
 have hno := unpackM_fault hp hx hf0
 obtain rfl : ok = false := by
  rcases hu1 with ⟨_, e⟩ | ⟨h, _⟩
  rw [hno] at e; cases e
  exact h
 refine aB (dM rfl rfl (lp (cS rfl) rfl (dM rfl rfl (cX rfl rfl rfl (cF (cD rfl rfl ok_12 (c_packs (hG.mono hs.view) hs.isIn)) rfl (fun vP w HF => ?_))))))
 obtain ⟨rfl, VP, hc⟩ := HF
 replace hs := hs.frame hc
 refine lp (bO rfl rfl rfl) rfl (dN rfl rfl (aH (aV ⟨_, res1 rfl, ?_⟩)))
 exact ⟨rfl, _, (hs.drop hb7).drop hb3⟩
 refine aW ?_
 have hnext : ∀ i s, i < j + 1 → [s0, s1, s2, s3, s4][i]? = some s → s.fault = 0 := fun i s hi hsi => by
  rcases Nat.lt_or_ge i j with h | h
  exact hz i s h hsi
  obtain rfl : i = j := by omega
  rw [hx] at hsi; cases hsi; simpa using hc3
 refine aB (lp (bN rfl rfl (i64c (c := j + 1) (by omega) (by omega))) rfl (dM rfl rfl (aH ?_)))
 exact ⟨j + 1, aL rfl (aL rfl (aL rfl (aL rfl (aL rfl (aL rfl (bG _)))))), ⟨hs.drop hb7, by omega, hnext⟩, by omega⟩
 refine e_exit (aF ?_)
 have hj5 : j = 5 := by omega
 subst hj5
 have hM := unpackM_clean hp hz
 have hRM : RMsg V2 { id := s0.id, bits := s0.bits, asks := s1.asks, answers := s2.recs, authorities := s3.recs, additionals := s4.recs } (headC s0.id s0.bits ++ [qa1, ra2, ra3, ra4]) := ⟨_, _, _, _, rfl, f1, g2, g3, g4⟩
 obtain ⟨rfl, rfl⟩ : ok = true ∧ x0 = { id := s0.id, bits := s0.bits, asks := s1.asks, answers := s2.recs, authorities := s3.recs, additionals := s4.recs } := by
  rcases hu1 with ⟨h, e⟩ | ⟨_, e, _⟩
  rw [hM] at e; cases e; exact ⟨h, rfl⟩
  rw [hM] at e; cases e
 have hfx := unpackM_few hM
 refine e_draw (fun w2 => V2.In w2 ∧ w2.heap[b3]? = some (.cells m1.toArray 42 (0, 0))) [2, 6, 10, 14, 18, 22] mixed (fun w hw => ?_)
 replace hs := hw.st hs
 refine dI 0 rfl (fun w => aC rfl) rfl rfl (dI 1 rfl (fun w => aC rfl) rfl rfl (dK 2 rfl rfl rfl rfl (fun _ => ⟨by exact hs.isIn, hs.g 0 rfl⟩) (fun w h0 => have hf := h0 (by decide +kernel); (aO rfl (aP k_42 hf.2 hR1.flat.2))) rfl (dK 3 rfl rfl rfl rfl (fun h => absurd h (by decide +kernel)) (fun w _ => (aC rfl)) rfl (dK 4 rfl rfl rfl rfl (fun h => absurd h (by decide +kernel)) (fun w _ => (po_iaN 0 (p1 + 0 * 13) es_25 rfl rfl rfl (by decide) rfl)) rfl (dK 5 rfl rfl rfl rfl (fun h => absurd h (by decide +kernel)) (fun w _ => (bD fo_33_1 rfl)) rfl (dK 6 rfl rfl rfl rfl (fun _ => ⟨by exact hs.isIn, hs.g 0 rfl⟩) (fun w h0 => have hf := h0 (by decide +kernel); (aO rfl (ld_cells (l := headC s0.id s0.bits) k_29 rfl (fun i u hu => by rw [Nat.add_assoc, Nat.add_assoc]; exact Vw.cell_in hf.1 (hcs _ _ (cell_at ht0 (by rw [Nat.add_comm 1 i, List.getElem?_cons_succ]; exact getElem?_headL hu))))))) rfl (dK 7 rfl rfl rfl rfl (fun h => absurd h (by decide +kernel)) (fun w _ => (aC rfl)) rfl (dK 8 rfl rfl rfl rfl (fun h => absurd h (by decide +kernel)) (fun w _ => (po_iaN 1 (p1 + 1 * 13) es_25 rfl rfl rfl (by decide) rfl)) rfl (dK 9 rfl rfl rfl rfl (fun h => absurd h (by decide +kernel)) (fun w _ => (bD fo_33_2 rfl)) rfl (dK 10 rfl rfl rfl rfl (fun _ => ⟨by exact hs.isIn, hs.g 0 rfl⟩) (fun w h0 => have hf := h0 (by decide +kernel); (aO rfl (bR (v := qa1) k_30 (by rw [Nat.add_assoc]; exact Vw.cell_in hf.1 (hcs _ _ (cell_at ht1 (i := 11) rfl)))))) rfl (dK 11 rfl rfl rfl rfl (fun h => absurd h (by decide +kernel)) (fun w _ => (aC rfl)) rfl (dK 12 rfl rfl rfl rfl (fun h => absurd h (by decide +kernel)) (fun w _ => (po_iaN 2 (p1 + 2 * 13) es_25 rfl rfl rfl (by decide) rfl)) rfl (dK 13 rfl rfl rfl rfl (fun h => absurd h (by decide +kernel)) (fun w _ => (bD fo_33_3 rfl)) rfl ?_)))))))))))))
 refine dK 14 rfl rfl rfl rfl (fun _ => ⟨by exact hs.isIn, hs.g 0 rfl⟩) (fun w h0 => have hf := h0 (by decide +kernel); (aO rfl (bR (v := ra2) k_31 (by rw [Nat.add_assoc]; exact Vw.cell_in hf.1 (hcs _ _ (cell_at ht2 (i := 12) rfl)))))) rfl (dK 15 rfl rfl rfl rfl (fun h => absurd h (by decide +kernel)) (fun w _ => (aC rfl)) rfl (dK 16 rfl rfl rfl rfl (fun h => absurd h (by decide +kernel)) (fun w _ => (po_iaN 3 (p1 + 3 * 13) es_25 rfl rfl rfl (by decide) rfl)) rfl (dK 17 rfl rfl rfl rfl (fun h => absurd h (by decide +kernel)) (fun w _ => (bD fo_33_3 rfl)) rfl (dK 18 rfl rfl rfl rfl (fun _ => ⟨by exact hs.isIn, hs.g 0 rfl⟩) (fun w h0 => have hf := h0 (by decide +kernel); (aO rfl (bR (v := ra3) k_31 (by rw [Nat.add_assoc]; exact Vw.cell_in hf.1 (hcs _ _ (cell_at ht3 (i := 12) rfl)))))) rfl (dK 19 rfl rfl rfl rfl (fun h => absurd h (by decide +kernel)) (fun w _ => (aC rfl)) rfl (dK 20 rfl rfl rfl rfl (fun h => absurd h (by decide +kernel)) (fun w _ => (po_iaN 4 (p1 + 4 * 13) es_25 rfl rfl rfl (by decide) rfl)) rfl (dK 21 rfl rfl rfl rfl (fun h => absurd h (by decide +kernel)) (fun w _ => (bD fo_33_3 rfl)) rfl (dK 22 rfl rfl rfl rfl (fun _ => ⟨by exact hs.isIn, hs.g 0 rfl⟩) (fun w h0 => have hf := h0 (by decide +kernel); (aO rfl (bR (v := ra4) k_31 (by rw [Nat.add_assoc]; exact Vw.cell_in hf.1 (hcs _ _ (cell_at ht4 (i := 12) rfl)))))) rfl (dK 23 rfl rfl rfl rfl (fun h => absurd h (by decide +kernel)) (fun w _ => (po_buildG [headC s0.id s0.bits, [qa1], [ra2], [ra3], [ra4]] st_42 rfl rfl (by simp only [List.map_cons, List.map_nil, cells_one f1.oneCell, cells_one g2.oneCell, cells_one g3.oneCell, cells_one g4.oneCell]; rfl) rfl rfl)) rfl (a_oneG 24 (by decide +kernel) rfl rfl rfl rfl (cF (cD rfl rfl ok_20 (c_SameMessage hs.isIn (hR1.mono (Vw.le_trans hV1 hle2)) hRM hfx)) rfl (fun v61 w HF => ?_))))))))))))
 obtain ⟨rfl, hc⟩ := HF
 replace hs := hs.frame hc
 refine ⟨fun _ => ⟨by exact hs.isIn, hs.g 0 rfl⟩, dI 25 rfl (fun w => bO rfl rfl rfl) rfl rfl (dI 26 rfl (fun w => aC rfl) rfl rfl (a_oneG 27 (by decide +kernel) rfl rfl rfl rfl (cF (cD rfl rfl ok_12 (c_packs (hG.mono hs.view) hs.isIn)) rfl (fun v64 w HF => ?_))))⟩
 obtain ⟨rfl, VP, hc⟩ := HF
 replace hs := hs.frame hc
 refine ⟨fun _ => ⟨by exact fun b o h => hs.isIn b o (hc.view b o h), hs.g 0 rfl⟩, dI 28 rfl (fun w => bO rfl rfl rfl) rfl rfl (dI 29 rfl (fun w => aD rfl) rfl rfl (bS (by decide +kernel) (aV ⟨_, res1 rfl, ?_⟩)))⟩
 exact ⟨rfl, _, hs.drop hb3⟩
end
end Go.Proofs.YtmigokakpahgkaaGreatDoor

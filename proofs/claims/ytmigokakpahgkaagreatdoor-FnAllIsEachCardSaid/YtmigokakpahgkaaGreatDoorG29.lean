/- Two values of the same things are told the same. -/
import Derived.Test.YtmigokakpahgkaaGreatDoorG28
set_option linter.all false
namespace Go.Proofs.YtmigokakpahgkaaGreatDoor
open Go
theorem getElem?_headL {id bits i : Nat} {u va vr : Value} (h : (headC id bits)[i]? = some u) : (headC id bits ++ [va, vr])[i]? = some u := by
 have hlt : i < (headC id bits).length := by
  rcases Nat.lt_or_ge i (headC id bits).length with h' | h'
  exact h'
  rw [List.getElem?_eq_none h'] at h; cases h
 rw [List.getElem?_append_left hlt]; exact h
section
variable {V : Vw} {w0 : World} {a b : Value}
theorem c_SameBytes (hV : V.In w0) {l : List UInt8} (ha : RB V a l) (hb : RB V b l) : CallsV Tryz.prog 94 #[a, b] w0 fun v w' => v = .bool true ∧ St ⟨w0, V, V⟩ w' [] := by
 have hs := St.start hV
 refine aT [_, _] Tryz.func94 Tryz.ntmps94 Tryz.results94 rfl rfl (dP (dN rfl rfl (aH (dP (dM rfl rfl (lp (po_bytesStrR ha hs.isIn Tryz.underlying22 Tryz.underlying5 Tryz.underlying9 rfl) rfl (dM rfl rfl (lp (po_bytesStrR hb hs.isIn Tryz.underlying22 Tryz.underlying5 Tryz.underlying9 rfl) rfl (lp (po_eqt rfl rfl) rfl (dN rfl rfl (aH (aV ⟨_, res1 rfl, ?_⟩))))))))))))
 exact ⟨rfl, hs⟩
set_option maxHeartbeats 2000000 in
theorem c_sameTexts (hV : V.In w0) {ts : List (List UInt8)} (ha : RTexts V a ts) (hb : RTexts V b ts) (hn : ts.length ≤ 4294967296) : CallsV Tryz.prog 95 #[a, b] w0 fun v w' => v = .bool true ∧ St ⟨w0, V, V⟩ w' [] := by
 obtain ⟨a1, c1, rfl, hk1, h1⟩ := SlV.form ha
 obtain ⟨a2, c2, rfl, hk2, h2⟩ := SlV.form hb
 have hs := St.start hV
 refine aT [_, _] Tryz.func95 Tryz.ntmps95 Tryz.results95 rfl rfl (dP (dN rfl rfl (aH (aF (dP (dM rfl rfl (lp (bC Tryz.underlying69 rfl) rfl (dM rfl rfl (lp (bC Tryz.underlying69 rfl) rfl (lp (po_neq rfl rfl) rfl (aH (aY rfl ((by simp)) (aW ?_)))))))))))))
 refine aF (dP (dM rfl rfl (lp (bC Tryz.underlying69 rfl) rfl (dM rfl rfl (aH (bQ (dC (fun j : Nat => upd (upd (upd (upd (upd emp 13 (.int .i64 j)) 12 (.int .i64 ts.length)) 11 (.slice a1 ts.length c1)) 1 (.slice a2 ts.length c2)) 0 (.slice a1 ts.length c1)) (fun j w' => St ⟨w0, V, V⟩ w' [] ∧ j ≤ ts.length) (fun j => ts.length - j) 0 (aL rfl (aL rfl (aL rfl (aL rfl (aL rfl (bG _)))))) ⟨hs, Nat.zero_le _⟩ ?_)))))))
 clear hs
 rintro j w ⟨hs, hj⟩
 refine dP (lp (cY rfl rfl) rfl (aH (aF (bH rfl (fun hc1 => ?_) (fun hc1 => ?_)))))
 have hjl : j < ts.length := by omega
 obtain ⟨b1, p1, rfl, hc1⟩ := h1 (by omega)
 obtain ⟨b2, p2, rfl, hc2⟩ := h2 (by omega)
 obtain ⟨x, hx⟩ : ∃ x, ts[j]? = some x := ⟨_, List.getElem?_eq_getElem hjl⟩
 refine aW (aF (bQ (dP (dM rfl rfl (dN rfl rfl (aH (aF (bV hs [3, 7] mixed (fun w hs => dI 0 rfl (fun w => aC rfl) rfl rfl (dI 1 rfl (fun w => aC rfl) rfl rfl (dI 2 rfl (fun w => (po_iaN j (p1 + j * 1) es_69 rfl rfl rfl hjl rfl)) rfl rfl (dJ 3 rfl hs rfl (fun w hs => (aO rfl (bR (v := strV x) k_9 (by rw [Nat.mul_one]; exact Vw.cell_in hs.isIn (hc1 _ _ (by simp [hx])))))) rfl (dI 4 rfl (fun w => aC rfl) rfl rfl ?_)))))))))))))
 refine dI 5 rfl (fun w => aC rfl) rfl rfl (dI 6 rfl (fun w => (po_iaN j (p2 + j * 1) es_69 rfl rfl rfl hjl rfl)) rfl rfl (dJ 7 rfl hs rfl (fun w hs => (aO rfl (bR (v := strV x) k_9 (by rw [Nat.mul_one]; exact Vw.cell_in hs.isIn (hc2 _ _ (by simp [hx])))))) rfl (dI 8 rfl (fun w => po_net rfl rfl) rfl rfl (bS (by decide +kernel) (aY rfl rfl (aW (aB (lp (bN rfl rfl (i64c (c := j + 1) (by omega) (by omega))) rfl (dM rfl rfl (aH ?_))))))))))
 exact ⟨j + 1, aL rfl (aL rfl (aL rfl (aL rfl (aL rfl (bG _))))), ⟨hs, by omega⟩, by omega⟩
 refine e_exit (dP (dN rfl rfl (aH (aV ⟨_, res1 rfl, ?_⟩))))
 exact ⟨rfl, hs⟩
set_option maxHeartbeats 2000000 in
theorem c_samePairs (hV : V.In w0) {ps : List PPair} (ha : RPairs V a ps) (hb : RPairs V b ps) (hn : ps.length ≤ 4294967296) : CallsV Tryz.prog 96 #[a, b] w0 fun v w' => v = .bool true ∧ St ⟨w0, V, V⟩ w' [] := by
 obtain ⟨xs1, hS1, hR1⟩ := ha
 obtain ⟨xs2, hS2, hR2⟩ := hb
 obtain ⟨a1, c1, rfl, hk1, h1⟩ := hS1.form
 obtain ⟨a2, c2, rfl, hk2, h2⟩ := hS2.form
 have hs := St.start hV
 refine aT [_, _] Tryz.func96 Tryz.ntmps96 Tryz.results96 rfl rfl (dP (dN rfl rfl (aH (aF (dP (dM rfl rfl (lp (bC Tryz.underlying70 rfl) rfl (dM rfl rfl (lp (bC Tryz.underlying70 rfl) rfl (lp (po_neq rfl rfl) rfl (aH (aY rfl ((by simp)) (aW ?_)))))))))))))
 refine aF (dP (dM rfl rfl (lp (bC Tryz.underlying70 rfl) rfl (dM rfl rfl (aH (bQ (dC (fun j : Nat => upd (upd (upd (upd (upd emp 13 (.int .i64 j)) 12 (.int .i64 ps.length)) 11 (.slice a1 ps.length c1)) 1 (.slice a2 ps.length c2)) 0 (.slice a1 ps.length c1)) (fun j w' => St ⟨w0, V, V⟩ w' [] ∧ j ≤ ps.length) (fun j => ps.length - j) 0 (aL rfl (aL rfl (aL rfl (aL rfl (aL rfl (bG _)))))) ⟨hs, Nat.zero_le _⟩ ?_)))))))
 clear hs
 rintro j w ⟨hs, hj⟩
 refine dP (lp (cY rfl rfl) rfl (aH (aF (bH rfl (fun hc1 => ?_) (fun hc1 => ?_)))))
 have hjl : j < ps.length := by omega
 obtain ⟨b1, p1, rfl, hc1⟩ := h1 (by omega)
 obtain ⟨b2, p2, rfl, hc2⟩ := h2 (by omega)
 obtain ⟨x, hx⟩ : ∃ x, ps[j]? = some x := ⟨_, List.getElem?_eq_getElem hjl⟩
 obtain ⟨e1, ⟨d1, rfl, hd1⟩, hl1, ht1⟩ := hR1.at hx
 obtain ⟨e2, ⟨d2, rfl, hd2⟩, hl2, ht2⟩ := hR2.at hx
 refine aW (aF (bQ (dP (dM rfl rfl (dN rfl rfl (aH (aF (bV hs [4, 9, 16, 21] mixed (fun w hs => dI 0 rfl (fun w => aC rfl) rfl rfl (dI 1 rfl (fun w => aC rfl) rfl rfl (dI 2 rfl (fun w => (po_iaN j (p1 + j * 2) es_70 rfl rfl rfl hjl rfl)) rfl rfl (dI 3 rfl (fun w => bD fo_242_0 rfl) rfl rfl (dJ 4 rfl hs rfl (fun w hs => (aO rfl (bR (v := .int .u16 x.key) cB (Vw.cell_in hs.isIn (hc1 _ _ (cell_at ht1 (i := 0) rfl)))))) rfl ?_)))))))))))))
 refine dI 5 rfl (fun w => aC rfl) rfl rfl (dI 6 rfl (fun w => aC rfl) rfl rfl (dI 7 rfl (fun w => (po_iaN j (p2 + j * 2) es_70 rfl rfl rfl hjl rfl)) rfl rfl (dI 8 rfl (fun w => bD fo_242_0 rfl) rfl rfl (dJ 9 rfl hs rfl (fun w hs => (aO rfl (bR (v := .int .u16 x.key) cB (Vw.cell_in hs.isIn (hc2 _ _ (cell_at ht2 (i := 0) rfl)))))) rfl (dI 10 rfl (fun w => po_nei rfl rfl) rfl rfl (dI 11 rfl (fun w => aC rfl) rfl rfl (dK 12 rfl rfl rfl rfl (fun h => absurd h (by decide +kernel)) (fun w _ => (aC rfl)) rfl (dK 13 rfl rfl rfl rfl (fun h => absurd h (by decide +kernel)) (fun w _ => (aC rfl)) rfl (dK 14 rfl rfl rfl rfl (fun h => absurd h (by decide +kernel)) (fun w _ => (po_iaN j (p1 + j * 2) es_70 rfl rfl rfl hjl rfl)) rfl (dK 15 rfl rfl rfl rfl (fun h => absurd h (by decide +kernel)) (fun w _ => (bD fo_242_1 rfl)) rfl (dK 16 rfl rfl rfl rfl (fun _ => hs) (fun w h0 => have hs := h0 (by decide +kernel); (aO rfl (bR (v := d1) k_22 (Vw.cell_in hs.isIn (hc1 _ _ (cell_at ht1 (i := 1) rfl)))))) rfl (dK 17 rfl rfl rfl rfl (fun h => absurd h (by decide +kernel)) (fun w _ => (aC rfl)) rfl (dK 18 rfl rfl rfl rfl (fun h => absurd h (by decide +kernel)) (fun w _ => (aC rfl)) rfl ?_)))))))))))))
 refine dK 19 rfl rfl rfl rfl (fun h => absurd h (by decide +kernel)) (fun w _ => (po_iaN j (p2 + j * 2) es_70 rfl rfl rfl hjl rfl)) rfl (dK 20 rfl rfl rfl rfl (fun h => absurd h (by decide +kernel)) (fun w _ => (bD fo_242_1 rfl)) rfl (dK 21 rfl rfl rfl rfl (fun _ => hs) (fun w h0 => have hs := h0 (by decide +kernel); (aO rfl (bR (v := d2) k_22 (Vw.cell_in hs.isIn (hc2 _ _ (cell_at ht2 (i := 1) rfl)))))) rfl (a_oneG 22 (by decide +kernel) rfl rfl rfl rfl (cF (cD rfl rfl ok_94 (c_SameBytes hs.isIn hd1 hd2)) rfl (fun v38 w HF => ?_)))))
 obtain ⟨rfl, hc⟩ := HF
 replace hs := hs.frame hc
 refine ⟨fun _ => hs, dK 23 rfl rfl rfl rfl (fun h => absurd h (by decide +kernel)) (fun w _ => (cS rfl)) rfl (dI 24 rfl (fun w => bW rfl rfl rfl) rfl rfl (bS (by decide +kernel) (aY rfl rfl (aW (aB (lp (bN rfl rfl (i64c (c := j + 1) (by omega) (by omega))) rfl (dM rfl rfl (aH ?_))))))))⟩
 exact ⟨j + 1, aL rfl (aL rfl (aL rfl (aL rfl (aL rfl (bG _))))), ⟨hs, by omega⟩, by omega⟩
 refine e_exit (dP (dN rfl rfl (aH (aV ⟨_, res1 rfl, ?_⟩))))
 exact ⟨rfl, hs⟩
set_option maxHeartbeats 2000000 in
theorem c_sameAsks (hV : V.In w0) {al : List PAsk} (ha : RAsks V a al) (hb : RAsks V b al) (hn : al.length ≤ 4294967296) : CallsV Tryz.prog 31 #[a, b] w0 fun v w' => v = .bool true ∧ St ⟨w0, V, V⟩ w' [] := by
 obtain ⟨xs1, hS1, hR1⟩ := ha
 obtain ⟨xs2, hS2, hR2⟩ := hb
 obtain ⟨a1, c1, rfl, hk1, h1⟩ := hS1.form
 obtain ⟨a2, c2, rfl, hk2, h2⟩ := hS2.form
 have hs := St.start hV
 refine aT [_, _] Tryz.func31 Tryz.ntmps31 Tryz.results31 rfl rfl (dP (dN rfl rfl (aH (aF (dP (dM rfl rfl (lp (bC Tryz.underlying30 rfl) rfl (dM rfl rfl (lp (bC Tryz.underlying30 rfl) rfl (lp (po_neq rfl rfl) rfl (aH (aY rfl ((by simp)) (aW ?_)))))))))))))
 refine aF (dP (dM rfl rfl (lp (bC Tryz.underlying30 rfl) rfl (dM rfl rfl (aH (bQ (dC (fun j : Nat => upd (upd (upd (upd (upd emp 13 (.int .i64 j)) 12 (.int .i64 al.length)) 11 (.slice a1 al.length c1)) 1 (.slice a2 al.length c2)) 0 (.slice a1 al.length c1)) (fun j w' => St ⟨w0, V, V⟩ w' [] ∧ j ≤ al.length) (fun j => al.length - j) 0 (aL rfl (aL rfl (aL rfl (aL rfl (aL rfl (bG _)))))) ⟨hs, Nat.zero_le _⟩ ?_)))))))
 clear hs
 rintro j w ⟨hs, hj⟩
 refine dP (lp (cY rfl rfl) rfl (aH (aF (bH rfl (fun hc1 => ?_) (fun hc1 => ?_)))))
 have hjl : j < al.length := by omega
 obtain ⟨b1, p1, rfl, hc1⟩ := h1 (by omega)
 obtain ⟨b2, p2, rfl, hc2⟩ := h2 (by omega)
 obtain ⟨x, hx⟩ : ∃ x, al[j]? = some x := ⟨_, List.getElem?_eq_getElem hjl⟩
 obtain ⟨e1, rfl, hl1, ht1⟩ := hR1.at hx
 obtain ⟨e2, rfl, hl2, ht2⟩ := hR2.at hx
 refine aW (aF (bQ (dP (dM rfl rfl (dN rfl rfl (aH (aF (bV hs [3, 7] mixed (fun w hs => dI 0 rfl (fun w => aC rfl) rfl rfl (dI 1 rfl (fun w => aC rfl) rfl rfl (dI 2 rfl (fun w => (po_iaN j (p1 + j * 3) es_30 rfl rfl rfl hjl rfl)) rfl rfl (dJ 3 rfl hs rfl (fun w hs => (aO rfl (ld_cells (l := askC x) k_106 rfl (fun i u hu => by rw [Nat.add_assoc]; exact Vw.cell_in hs.isIn (hc1 _ _ (cell_at ht1 hu)))))) rfl (dI 4 rfl (fun w => aC rfl) rfl rfl ?_)))))))))))))
 refine dI 5 rfl (fun w => aC rfl) rfl rfl (dI 6 rfl (fun w => (po_iaN j (p2 + j * 3) es_30 rfl rfl rfl hjl rfl)) rfl rfl (dJ 7 rfl hs rfl (fun w hs => (aO rfl (ld_cells (l := askC x) k_106 rfl (fun i u hu => by rw [Nat.add_assoc]; exact Vw.cell_in hs.isIn (hc2 _ _ (cell_at ht2 hu)))))) rfl (dI 8 rfl (fun w => po_nes_self ps_106 us_106 rfl rfl rfl) rfl rfl (bS (by decide +kernel) (aY rfl rfl (aW (aB (lp (bN rfl rfl (i64c (c := j + 1) (by omega) (by omega))) rfl (dM rfl rfl (aH ?_))))))))))
 exact ⟨j + 1, aL rfl (aL rfl (aL rfl (aL rfl (aL rfl (bG _))))), ⟨hs, by omega⟩, by omega⟩
 refine e_exit (dP (dN rfl rfl (aH (aV ⟨_, res1 rfl, ?_⟩))))
 exact ⟨rfl, hs⟩
def FewR (r : PRec) : Prop := r.texts.length ≤ 4294967296 ∧ r.pairs.length ≤ 4294967296
set_option maxHeartbeats 4000000 in
theorem c_sameRecord (hV : V.In w0) {r : PRec} {ra rb : List Value} (ha : RRec V r ra) (hb : RRec V r rb) (hn : FewR r) : CallsV Tryz.prog 30 #[.agg ra.toArray, .agg rb.toArray] w0 fun v w' => v = .bool true ∧ St ⟨w0, V, V⟩ w' [] := by
 obtain ⟨vd, vt, vp, rfl, f1, f2, f3⟩ := ha
 obtain ⟨vd', vt', vp', rfl, g1, g2, g3⟩ := hb
 have hs := St.start hV
 have hg : true = true := rfl
 refine aT [_, _] Tryz.func30 Tryz.ntmps30 Tryz.results30 rfl rfl (dP (aJ (cR hs rfl rfl rfl (fun b2 w hb2 hbe2 hs => aJ (cR hs rfl rfl rfl (fun b3 w hb3 hbe3 hs => dN rfl rfl (aH (aF ?_))))))))
 skip
 refine aB (lp (aR fo_72_0 rfl) rfl (lp (aO rfl (aQ k_9 (hs.g 1 rfl) rfl)) rfl (lp (aR fo_72_0 rfl) rfl (lp (aO rfl (aQ k_9 (hs.g 0 rfl) rfl)) rfl (lp (po_eqt rfl rfl) rfl (dM rfl rfl (lg rfl rfl hg (aR fo_72_1 rfl) rfl (lg rfl rfl hg (aO rfl (aQ cB (hs.g 1 rfl) rfl)) rfl (lg rfl rfl hg (aR fo_72_1 rfl) rfl (lg rfl rfl hg (aO rfl (aQ cB (hs.g 0 rfl) rfl)) rfl (lg rfl rfl hg (po_eqi rfl rfl) rfl (lp (bO rfl rfl rfl) rfl (dM rfl rfl ?_)))))))))))))
 refine lg rfl rfl hg (aR fo_72_2 rfl) rfl (lg rfl rfl hg (aO rfl (aQ cB (hs.g 1 rfl) rfl)) rfl (lg rfl rfl hg (aR fo_72_2 rfl) rfl (lg rfl rfl hg (aO rfl (aQ cB (hs.g 0 rfl) rfl)) rfl (lg rfl rfl hg (po_eqi rfl rfl) rfl (lp (bO rfl rfl rfl) rfl (dM rfl rfl (lg rfl rfl hg (aR fo_72_3 rfl) rfl (lg rfl rfl hg (aO rfl (aQ k_68 (hs.g 1 rfl) rfl)) rfl (lg rfl rfl hg (aR fo_72_3 rfl) rfl (lg rfl rfl hg (aO rfl (aQ k_68 (hs.g 0 rfl) rfl)) rfl (lg rfl rfl hg (po_eqi rfl rfl) rfl (lp (bO rfl rfl rfl) rfl (dM rfl rfl ?_)))))))))))))
 refine lg rfl rfl hg (aR fo_72_4 rfl) rfl (lg rfl rfl hg (aO rfl (aQ cB (hs.g 1 rfl) rfl)) rfl (lg rfl rfl hg (aR fo_72_4 rfl) rfl (lg rfl rfl hg (aO rfl (aQ cB (hs.g 0 rfl) rfl)) rfl (lg rfl rfl hg (po_eqi rfl rfl) rfl (lp (bO rfl rfl rfl) rfl (dM rfl rfl (lg rfl rfl hg (aR fo_72_5 rfl) rfl (lg rfl rfl hg (aO rfl (aQ cH (hs.g 1 rfl) rfl)) rfl (lg rfl rfl hg (aR fo_72_5 rfl) rfl (lg rfl rfl hg (aO rfl (aQ cH (hs.g 0 rfl) rfl)) rfl (lg rfl rfl hg (po_eqi rfl rfl) rfl (lp (bO rfl rfl rfl) rfl (dN rfl rfl ?_)))))))))))))
 refine aH (aF ?_)
 skip
 refine aB (lp (aR fo_72_9 rfl) rfl (lp (aO rfl (aQ k_68 (hs.g 1 rfl) rfl)) rfl (lp (aR fo_72_9 rfl) rfl (lp (aO rfl (aQ k_68 (hs.g 0 rfl) rfl)) rfl (lp (po_eqi rfl rfl) rfl (dM rfl rfl (lg rfl rfl hg (aR fo_72_10 rfl) rfl (lg rfl rfl hg (aO rfl (aQ k_68 (hs.g 1 rfl) rfl)) rfl (lg rfl rfl hg (aR fo_72_10 rfl) rfl (lg rfl rfl hg (aO rfl (aQ k_68 (hs.g 0 rfl) rfl)) rfl (lg rfl rfl hg (po_eqi rfl rfl) rfl (lp (bO rfl rfl rfl) rfl (dM rfl rfl ?_)))))))))))))
 refine lg rfl rfl hg (aR fo_72_11 rfl) rfl (lg rfl rfl hg (aO rfl (aQ k_68 (hs.g 1 rfl) rfl)) rfl (lg rfl rfl hg (aR fo_72_11 rfl) rfl (lg rfl rfl hg (aO rfl (aQ k_68 (hs.g 0 rfl) rfl)) rfl (lg rfl rfl hg (po_eqi rfl rfl) rfl (lp (bO rfl rfl rfl) rfl (dM rfl rfl (lg rfl rfl hg (aR fo_72_12 rfl) rfl (lg rfl rfl hg (aO rfl (aQ k_68 (hs.g 1 rfl) rfl)) rfl (lg rfl rfl hg (aR fo_72_12 rfl) rfl (lg rfl rfl hg (aO rfl (aQ k_68 (hs.g 0 rfl) rfl)) rfl (lg rfl rfl hg (po_eqi rfl rfl) rfl (lp (bO rfl rfl rfl) rfl (dM rfl rfl ?_)))))))))))))
 refine lg rfl rfl hg (aR fo_72_13 rfl) rfl (lg rfl rfl hg (aO rfl (aQ k_68 (hs.g 1 rfl) rfl)) rfl (lg rfl rfl hg (aR fo_72_13 rfl) rfl (lg rfl rfl hg (aO rfl (aQ k_68 (hs.g 0 rfl) rfl)) rfl (lg rfl rfl hg (po_eqi rfl rfl) rfl (lp (bO rfl rfl rfl) rfl (dN rfl rfl (aH (aF ?_))))))))
 skip
 refine aB (dM rfl rfl (dM rfl rfl (lg rfl rfl hg (aC rfl) rfl (lp (bO rfl rfl rfl) rfl (dM rfl rfl (lg rfl rfl hg (aR fo_72_7 rfl) rfl (lg rfl rfl hg (aO rfl (aQ k_9 (hs.g 1 rfl) rfl)) rfl (lg rfl rfl hg (aR fo_72_7 rfl) rfl (lg rfl rfl hg (aO rfl (aQ k_9 (hs.g 0 rfl) rfl)) rfl (lg rfl rfl hg (po_eqt rfl rfl) rfl (lp (bO rfl rfl rfl) rfl (dM rfl rfl (lg rfl rfl hg (aR fo_72_8 rfl) rfl ?_)))))))))))))
 refine lg rfl rfl hg (aO rfl (aQ k_9 (hs.g 1 rfl) rfl)) rfl (lg rfl rfl hg (aR fo_72_8 rfl) rfl (lg rfl rfl hg (aO rfl (aQ k_9 (hs.g 0 rfl) rfl)) rfl (lg rfl rfl hg (po_eqt rfl rfl) rfl (lp (bO rfl rfl rfl) rfl (dM rfl rfl (lg rfl rfl hg (aR fo_72_6 rfl) rfl (lg rfl rfl hg (aO rfl (aQ k_22 (hs.g 1 rfl) rfl)) rfl (lg rfl rfl hg (aR fo_72_6 rfl) rfl (lg rfl rfl hg (aO rfl (aQ k_22 (hs.g 0 rfl) rfl)) rfl (cX rfl rfl hg (cF (cD rfl rfl ok_94 (c_SameBytes hs.isIn f1 g1)) rfl (fun v103 w HF => ?_))))))))))))
 obtain ⟨rfl, hc⟩ := HF
 replace hs := hs.frame hc
 refine lp (bO rfl rfl rfl) rfl (dM rfl rfl (lg rfl rfl hg (aR fo_72_14 rfl) rfl (lg rfl rfl hg (aO rfl (aQ k_69 (hs.g 1 rfl) rfl)) rfl (lg rfl rfl hg (aR fo_72_14 rfl) rfl (lg rfl rfl hg (aO rfl (aQ k_69 (hs.g 0 rfl) rfl)) rfl (cX rfl rfl hg (cF (cD rfl rfl ok_95 (c_sameTexts hs.isIn f2 g2 hn.1)) rfl (fun v110 w HF => ?_))))))))
 obtain ⟨rfl, hc⟩ := HF
 replace hs := hs.frame hc
 refine lp (bO rfl rfl rfl) rfl (dM rfl rfl (lg rfl rfl hg (aR fo_72_15 rfl) rfl (lg rfl rfl hg (aO rfl (aQ k_70 (hs.g 1 rfl) rfl)) rfl (lg rfl rfl hg (aR fo_72_15 rfl) rfl (lg rfl rfl hg (aO rfl (aQ k_70 (hs.g 0 rfl) rfl)) rfl (cX rfl rfl hg (cF (cD rfl rfl ok_96 (c_samePairs hs.isIn f3 g3 hn.2)) rfl (fun v117 w HF => ?_))))))))
 obtain ⟨rfl, hc⟩ := HF
 replace hs := hs.frame hc
 refine lp (bO rfl rfl rfl) rfl (dN rfl rfl (aH (aV ⟨_, res1 rfl, ?_⟩)))
 exact ⟨rfl, (hs.drop hb3).drop hb2⟩
set_option maxHeartbeats 2000000 in
theorem c_SameRecords (hV : V.In w0) {rl : List PRec} (ha : RRecs V a rl) (hb : RRecs V b rl) (hn : rl.length ≤ 4294967296) (hf : ∀ r ∈ rl, FewR r) : CallsV Tryz.prog 14 #[a, b] w0 fun v w' => v = .bool true ∧ St ⟨w0, V, V⟩ w' [] := by
 obtain ⟨xs1, hS1, hR1⟩ := ha
 obtain ⟨xs2, hS2, hR2⟩ := hb
 obtain ⟨a1, c1, rfl, hk1, h1⟩ := hS1.form
 obtain ⟨a2, c2, rfl, hk2, h2⟩ := hS2.form
 have hs := St.start hV
 refine aT [_, _] Tryz.func14 Tryz.ntmps14 Tryz.results14 rfl rfl (dP (dN rfl rfl (aH (aF (dP (dM rfl rfl (lp (bC Tryz.underlying31 rfl) rfl (dM rfl rfl (lp (bC Tryz.underlying31 rfl) rfl (lp (po_neq rfl rfl) rfl (aH (aY rfl ((by simp)) (aW ?_)))))))))))))
 refine aF (dP (dM rfl rfl (lp (bC Tryz.underlying31 rfl) rfl (dM rfl rfl (aH (bQ (dC (fun j : Nat => upd (upd (upd (upd (upd emp 13 (.int .i64 j)) 12 (.int .i64 rl.length)) 11 (.slice a1 rl.length c1)) 1 (.slice a2 rl.length c2)) 0 (.slice a1 rl.length c1)) (fun j w' => St ⟨w0, V, V⟩ w' [] ∧ j ≤ rl.length) (fun j => rl.length - j) 0 (aL rfl (aL rfl (aL rfl (aL rfl (aL rfl (bG _)))))) ⟨hs, Nat.zero_le _⟩ ?_)))))))
 clear hs
 rintro j w ⟨hs, hj⟩
 refine dP (lp (cY rfl rfl) rfl (aH (aF (bH rfl (fun hc1 => ?_) (fun hc1 => ?_)))))
 have hjl : j < rl.length := by omega
 obtain ⟨b1, p1, rfl, hc1⟩ := h1 (by omega)
 obtain ⟨b2, p2, rfl, hc2⟩ := h2 (by omega)
 obtain ⟨x, hx⟩ : ∃ x, rl[j]? = some x := ⟨_, List.getElem?_eq_getElem hjl⟩
 obtain ⟨e1, hr1, hl1, ht1⟩ := hR1.at hx
 obtain ⟨e2, hr2, hl2, ht2⟩ := hR2.at hx
 refine aW (aF (bQ (dP (dM rfl rfl (dN rfl rfl (aH (aF (bV hs [3, 7] mixed (fun w hs => dI 0 rfl (fun w => aC rfl) rfl rfl (dI 1 rfl (fun w => aC rfl) rfl rfl (dI 2 rfl (fun w => (po_iaN j (p1 + j * 16) es_31 rfl rfl rfl hjl rfl)) rfl rfl (dJ 3 rfl hs rfl (fun w hs => (aO rfl (ld_cells (l := e1) bT hl1 (fun i u hu => by rw [Nat.add_assoc]; exact Vw.cell_in hs.isIn (hc1 _ _ (cell_at ht1 hu)))))) rfl (dI 4 rfl (fun w => aC rfl) rfl rfl ?_)))))))))))))
 refine dI 5 rfl (fun w => aC rfl) rfl rfl (dI 6 rfl (fun w => (po_iaN j (p2 + j * 16) es_31 rfl rfl rfl hjl rfl)) rfl rfl (dJ 7 rfl hs rfl (fun w hs => (aO rfl (ld_cells (l := e2) bT hl2 (fun i u hu => by rw [Nat.add_assoc]; exact Vw.cell_in hs.isIn (hc2 _ _ (cell_at ht2 hu)))))) rfl (dL 8 rfl (cF (cD rfl rfl ok_30 (c_sameRecord hs.isIn hr1 hr2 (hf x (List.mem_of_getElem? hx)))) rfl (fun v24 w HF => ?_)))))
 obtain ⟨rfl, hc⟩ := HF
 replace hs := hs.frame hc
 refine ⟨fun h => absurd h (by decide +kernel), dI 9 rfl (fun w => cS rfl) rfl rfl (bS (by decide +kernel) (aY rfl rfl (aW (aB (lp (bN rfl rfl (i64c (c := j + 1) (by omega) (by omega))) rfl (dM rfl rfl (aH ?_)))))))⟩
 exact ⟨j + 1, aL rfl (aL rfl (aL rfl (aL rfl (aL rfl (bG _))))), ⟨hs, by omega⟩, by omega⟩
 refine e_exit (dP (dN rfl rfl (aH (aV ⟨_, res1 rfl, ?_⟩))))
 exact ⟨rfl, hs⟩
def FewL (rl : List PRec) : Prop := rl.length ≤ 4294967296 ∧ ∀ r ∈ rl, FewR r
def FewM (x : PMsg) : Prop := x.asks.length ≤ 4294967296 ∧ FewL x.answers ∧ FewL x.authorities ∧ FewL x.additionals
set_option maxHeartbeats 4000000 in
theorem c_SameMessage (hV : V.In w0) {x : PMsg} {ra rb : List Value} (ha : RMsg V x ra) (hb : RMsg V x rb) (hn : FewM x) : CallsV Tryz.prog 20 #[.agg ra.toArray, .agg rb.toArray] w0 fun v w' => v = .bool true ∧ St ⟨w0, V, V⟩ w' [] := by
 obtain ⟨va, v1, v2, v3, rfl, f0, f1, f2, f3⟩ := ha
 obtain ⟨va', v1', v2', v3', rfl, g0, g1, g2, g3⟩ := hb
 have hs := St.start hV
 have hg : true = true := rfl
 refine aT [_, _] Tryz.func20 Tryz.ntmps20 Tryz.results20 rfl rfl (dP (aJ (cR hs rfl rfl rfl (fun b2 w hb2 hbe2 hs => aJ (cR hs rfl rfl rfl (fun b3 w hb3 hbe3 hs => dN rfl rfl (aH (aF ?_))))))))
 skip
 refine aB (lp (aR fo_42_0 rfl) rfl (lp (aO rfl (ld_hd (a := headC x.id x.bits) k_29 (hs.g 1 rfl) rfl)) rfl (lp (aR fo_42_0 rfl) rfl (lp (aO rfl (ld_hd (a := headC x.id x.bits) k_29 (hs.g 0 rfl) rfl)) rfl (lp (po_eqs_self ps_29 us_29 rfl rfl rfl) rfl (dM rfl rfl (lg rfl rfl hg (aR fo_42_1 rfl) rfl (lg rfl rfl hg (aO rfl (aQ k_30 (hs.g 1 rfl) rfl)) rfl (lg rfl rfl hg (aR fo_42_1 rfl) rfl (lg rfl rfl hg (aO rfl (aQ k_30 (hs.g 0 rfl) rfl)) rfl (cX rfl rfl hg (cF (cD rfl rfl ok_31 (c_sameAsks hs.isIn f0 g0 hn.1)) rfl (fun v15 w HF => ?_)))))))))))))
 obtain ⟨rfl, hc⟩ := HF
 replace hs := hs.frame hc
 refine lp (bO rfl rfl rfl) rfl (dM rfl rfl (lg rfl rfl hg (aR fo_42_2 rfl) rfl (lg rfl rfl hg (aO rfl (aQ k_31 (hs.g 1 rfl) rfl)) rfl (lg rfl rfl hg (aR fo_42_2 rfl) rfl (lg rfl rfl hg (aO rfl (aQ k_31 (hs.g 0 rfl) rfl)) rfl (cX rfl rfl hg (cF (cD rfl rfl ok_14 (c_SameRecords hs.isIn f1 g1 hn.2.1.1 hn.2.1.2)) rfl (fun v22 w HF => ?_))))))))
 obtain ⟨rfl, hc⟩ := HF
 replace hs := hs.frame hc
 refine lp (bO rfl rfl rfl) rfl (dM rfl rfl (lg rfl rfl hg (aR fo_42_3 rfl) rfl (lg rfl rfl hg (aO rfl (aQ k_31 (hs.g 1 rfl) rfl)) rfl (lg rfl rfl hg (aR fo_42_3 rfl) rfl (lg rfl rfl hg (aO rfl (aQ k_31 (hs.g 0 rfl) rfl)) rfl (cX rfl rfl hg (cF (cD rfl rfl ok_14 (c_SameRecords hs.isIn f2 g2 hn.2.2.1.1 hn.2.2.1.2)) rfl (fun v29 w HF => ?_))))))))
 obtain ⟨rfl, hc⟩ := HF
 replace hs := hs.frame hc
 refine lp (bO rfl rfl rfl) rfl (dM rfl rfl (lg rfl rfl hg (aR fo_42_4 rfl) rfl (lg rfl rfl hg (aO rfl (aQ k_31 (hs.g 1 rfl) rfl)) rfl (lg rfl rfl hg (aR fo_42_4 rfl) rfl (lg rfl rfl hg (aO rfl (aQ k_31 (hs.g 0 rfl) rfl)) rfl (cX rfl rfl hg (cF (cD rfl rfl ok_14 (c_SameRecords hs.isIn f3 g3 hn.2.2.2.1 hn.2.2.2.2)) rfl (fun v36 w HF => ?_))))))))
 obtain ⟨rfl, hc⟩ := HF
 replace hs := hs.frame hc
 refine lp (bO rfl rfl rfl) rfl (dN rfl rfl (aH (aV ⟨_, res1 rfl, ?_⟩)))
 exact ⟨rfl, (hs.drop hb3).drop hb2⟩
def FewS (s : PSeen) : Prop := s.asks.length ≤ 4294967296 ∧ FewL s.recs
set_option maxHeartbeats 2000000 in
theorem c_SameSeen (hV : V.In w0) {sl : List PSeen} (ha : RSeens V a sl) (hb : RSeens V b sl) (hn : sl.length ≤ 4294967296) (hf : ∀ s ∈ sl, FewS s) : CallsV Tryz.prog 16 #[a, b] w0 fun v w' => v = .bool true ∧ St ⟨w0, V, V⟩ w' [] := by
 obtain ⟨xs1, hS1, hR1⟩ := ha
 obtain ⟨xs2, hS2, hR2⟩ := hb
 obtain ⟨a1, c1, rfl, hk1, h1⟩ := hS1.form
 obtain ⟨a2, c2, rfl, hk2, h2⟩ := hS2.form
 have hs := St.start hV
 refine aT [_, _] Tryz.func16 Tryz.ntmps16 Tryz.results16 rfl rfl (dP (dN rfl rfl (aH (aF (dP (dM rfl rfl (lp (bC Tryz.underlying25 rfl) rfl (dM rfl rfl (lp (bC Tryz.underlying25 rfl) rfl (lp (po_neq rfl rfl) rfl (aH (aY rfl ((by simp)) (aW ?_)))))))))))))
 refine aF (dP (dM rfl rfl (lp (bC Tryz.underlying25 rfl) rfl (dM rfl rfl (aH (bQ (dC (fun j : Nat => upd (upd (upd (upd (upd emp 13 (.int .i64 j)) 12 (.int .i64 sl.length)) 11 (.slice a1 sl.length c1)) 1 (.slice a2 sl.length c2)) 0 (.slice a1 sl.length c1)) (fun j w' => St ⟨w0, V, V⟩ w' [] ∧ j ≤ sl.length) (fun j => sl.length - j) 0 (aL rfl (aL rfl (aL rfl (aL rfl (aL rfl (bG _)))))) ⟨hs, Nat.zero_le _⟩ ?_)))))))
 clear hs
 rintro j w ⟨hs, hj⟩
 refine dP (lp (cY rfl rfl) rfl (aH (aF (bH rfl (fun hc1 => ?_) (fun hc1 => ?_)))))
 have hjl : j < sl.length := by omega
 obtain ⟨b1, p1, rfl, hc1⟩ := h1 (by omega)
 obtain ⟨b2, p2, rfl, hc2⟩ := h2 (by omega)
 obtain ⟨x, hx⟩ : ∃ x, sl[j]? = some x := ⟨_, List.getElem?_eq_getElem hjl⟩
 have hfx := hf x (List.mem_of_getElem? hx)
 obtain ⟨e1, ⟨q1, r1, rfl, f0, f1⟩, hl1, ht1⟩ := hR1.at hx
 obtain ⟨e2, ⟨q2, r2, rfl, g0, g1⟩, hl2, ht2⟩ := hR2.at hx
 refine aW (aF (bQ (dP (dM rfl rfl (dN rfl rfl (aH (aF (bV hs [4, 9, 16, 21, 29, 34, 43, 48] mixed (fun w hs => dI 0 rfl (fun w => aC rfl) rfl rfl (dI 1 rfl (fun w => aC rfl) rfl rfl (dI 2 rfl (fun w => (po_iaN j (p1 + j * 13) es_25 rfl rfl rfl hjl rfl)) rfl rfl (dI 3 rfl (fun w => bD cV rfl) rfl rfl (dJ 4 rfl hs rfl (fun w hs => (aO rfl (bR (v := .int .i64 x.fault) cH (Vw.cell_in hs.isIn (hc1 _ _ (cell_at ht1 (i := 0) rfl)))))) rfl ?_)))))))))))))
 refine dI 5 rfl (fun w => aC rfl) rfl rfl (dI 6 rfl (fun w => aC rfl) rfl rfl (dI 7 rfl (fun w => (po_iaN j (p2 + j * 13) es_25 rfl rfl rfl hjl rfl)) rfl rfl (dI 8 rfl (fun w => bD cV rfl) rfl rfl (dJ 9 rfl hs rfl (fun w hs => (aO rfl (bR (v := .int .i64 x.fault) cH (Vw.cell_in hs.isIn (hc2 _ _ (cell_at ht2 (i := 0) rfl)))))) rfl (dI 10 rfl (fun w => po_nei rfl rfl) rfl rfl (dI 11 rfl (fun w => aC rfl) rfl rfl (dK 12 rfl rfl rfl rfl (fun h => absurd h (by decide +kernel)) (fun w _ => (aC rfl)) rfl (dK 13 rfl rfl rfl rfl (fun h => absurd h (by decide +kernel)) (fun w _ => (aC rfl)) rfl (dK 14 rfl rfl rfl rfl (fun h => absurd h (by decide +kernel)) (fun w _ => (po_iaN j (p1 + j * 13) es_25 rfl rfl rfl hjl rfl)) rfl (dK 15 rfl rfl rfl rfl (fun h => absurd h (by decide +kernel)) (fun w _ => (bD fo_33_1 rfl)) rfl (dK 16 rfl rfl rfl rfl (fun _ => hs) (fun w h0 => have hs := h0 (by decide +kernel); (aO rfl (ld_cells (l := headC x.id x.bits) k_29 rfl (fun i u hu => by rw [Nat.add_assoc, Nat.add_assoc]; exact Vw.cell_in hs.isIn (hc1 _ _ (cell_at ht1 (by rw [Nat.add_comm 1 i, List.getElem?_cons_succ]; exact getElem?_headL hu))))))) rfl (dK 17 rfl rfl rfl rfl (fun h => absurd h (by decide +kernel)) (fun w _ => (aC rfl)) rfl (dK 18 rfl rfl rfl rfl (fun h => absurd h (by decide +kernel)) (fun w _ => (aC rfl)) rfl ?_)))))))))))))
 refine dK 19 rfl rfl rfl rfl (fun h => absurd h (by decide +kernel)) (fun w _ => (po_iaN j (p2 + j * 13) es_25 rfl rfl rfl hjl rfl)) rfl (dK 20 rfl rfl rfl rfl (fun h => absurd h (by decide +kernel)) (fun w _ => (bD fo_33_1 rfl)) rfl (dK 21 rfl rfl rfl rfl (fun _ => hs) (fun w h0 => have hs := h0 (by decide +kernel); (aO rfl (ld_cells (l := headC x.id x.bits) k_29 rfl (fun i u hu => by rw [Nat.add_assoc, Nat.add_assoc]; exact Vw.cell_in hs.isIn (hc2 _ _ (cell_at ht2 (by rw [Nat.add_comm 1 i, List.getElem?_cons_succ]; exact getElem?_headL hu))))))) rfl (dK 22 rfl rfl rfl rfl (fun h => absurd h (by decide +kernel)) (fun w _ => (po_nes_self ps_29 us_29 rfl rfl rfl)) rfl (dI 23 rfl (fun w => bW rfl rfl rfl) rfl rfl (dI 24 rfl (fun w => aC rfl) rfl rfl (dK 25 rfl rfl rfl rfl (fun h => absurd h (by decide +kernel)) (fun w _ => (aC rfl)) rfl (dK 26 rfl rfl rfl rfl (fun h => absurd h (by decide +kernel)) (fun w _ => (aC rfl)) rfl (dK 27 rfl rfl rfl rfl (fun h => absurd h (by decide +kernel)) (fun w _ => (po_iaN j (p1 + j * 13) es_25 rfl rfl rfl hjl rfl)) rfl (dK 28 rfl rfl rfl rfl (fun h => absurd h (by decide +kernel)) (fun w _ => (bD fo_33_2 rfl)) rfl (dK 29 rfl rfl rfl rfl (fun _ => hs) (fun w h0 => have hs := h0 (by decide +kernel); (aO rfl (bR (v := q1) k_30 (by rw [Nat.add_assoc]; exact Vw.cell_in hs.isIn (hc1 _ _ (cell_at ht1 (i := 11) rfl)))))) rfl (dK 30 rfl rfl rfl rfl (fun h => absurd h (by decide +kernel)) (fun w _ => (aC rfl)) rfl (dK 31 rfl rfl rfl rfl (fun h => absurd h (by decide +kernel)) (fun w _ => (aC rfl)) rfl (dK 32 rfl rfl rfl rfl (fun h => absurd h (by decide +kernel)) (fun w _ => (po_iaN j (p2 + j * 13) es_25 rfl rfl rfl hjl rfl)) rfl ?_)))))))))))))
 refine dK 33 rfl rfl rfl rfl (fun h => absurd h (by decide +kernel)) (fun w _ => (bD fo_33_2 rfl)) rfl (dK 34 rfl rfl rfl rfl (fun _ => hs) (fun w h0 => have hs := h0 (by decide +kernel); (aO rfl (bR (v := q2) k_30 (by rw [Nat.add_assoc]; exact Vw.cell_in hs.isIn (hc2 _ _ (cell_at ht2 (i := 11) rfl)))))) rfl (a_oneG 35 (by decide +kernel) rfl rfl rfl rfl (cF (cD rfl rfl ok_31 (c_sameAsks hs.isIn f0 g0 hfx.1)) rfl (fun v51 w HF => ?_))))
 obtain ⟨rfl, hc⟩ := HF
 replace hs := hs.frame hc
 refine ⟨fun _ => hs, dK 36 rfl rfl rfl rfl (fun h => absurd h (by decide +kernel)) (fun w _ => (cS rfl)) rfl (dI 37 rfl (fun w => bW rfl rfl rfl) rfl rfl (dI 38 rfl (fun w => aC rfl) rfl rfl (dK 39 rfl rfl rfl rfl (fun h => absurd h (by decide +kernel)) (fun w _ => (aC rfl)) rfl (dK 40 rfl rfl rfl rfl (fun h => absurd h (by decide +kernel)) (fun w _ => (aC rfl)) rfl (dK 41 rfl rfl rfl rfl (fun h => absurd h (by decide +kernel)) (fun w _ => (po_iaN j (p1 + j * 13) es_25 rfl rfl rfl hjl rfl)) rfl (dK 42 rfl rfl rfl rfl (fun h => absurd h (by decide +kernel)) (fun w _ => (bD fo_33_3 rfl)) rfl (dK 43 rfl rfl rfl rfl (fun _ => hs) (fun w h0 => have hs := h0 (by decide +kernel); (aO rfl (bR (v := r1) k_31 (by rw [Nat.add_assoc]; exact Vw.cell_in hs.isIn (hc1 _ _ (cell_at ht1 (i := 12) rfl)))))) rfl (dK 44 rfl rfl rfl rfl (fun h => absurd h (by decide +kernel)) (fun w _ => (aC rfl)) rfl (dK 45 rfl rfl rfl rfl (fun h => absurd h (by decide +kernel)) (fun w _ => (aC rfl)) rfl (dK 46 rfl rfl rfl rfl (fun h => absurd h (by decide +kernel)) (fun w _ => (po_iaN j (p2 + j * 13) es_25 rfl rfl rfl hjl rfl)) rfl (dK 47 rfl rfl rfl rfl (fun h => absurd h (by decide +kernel)) (fun w _ => (bD fo_33_3 rfl)) rfl (dK 48 rfl rfl rfl rfl (fun _ => hs) (fun w h0 => have hs := h0 (by decide +kernel); (aO rfl (bR (v := r2) k_31 (by rw [Nat.add_assoc]; exact Vw.cell_in hs.isIn (hc2 _ _ (cell_at ht2 (i := 12) rfl)))))) rfl ?_))))))))))))⟩
 refine a_oneG 49 (by decide +kernel) rfl rfl rfl rfl (cF (cD rfl rfl ok_14 (c_SameRecords hs.isIn f1 g1 hfx.2.1 hfx.2.2)) rfl (fun v65 w HF => ?_))
 obtain ⟨rfl, hc⟩ := HF
 replace hs := hs.frame hc
 refine ⟨fun _ => hs, dK 50 rfl rfl rfl rfl (fun h => absurd h (by decide +kernel)) (fun w _ => (cS rfl)) rfl (dI 51 rfl (fun w => bW rfl rfl rfl) rfl rfl (bS (by decide +kernel) (aY rfl rfl (aW (aB (lp (bN rfl rfl (i64c (c := j + 1) (by omega) (by omega))) rfl (dM rfl rfl (aH ?_))))))))⟩
 exact ⟨j + 1, aL rfl (aL rfl (aL rfl (aL rfl (aL rfl (bG _))))), ⟨hs, by omega⟩, by omega⟩
 refine e_exit (dP (dN rfl rfl (aH (aV ⟨_, res1 rfl, ?_⟩))))
 exact ⟨rfl, hs⟩
end
end Go.Proofs.YtmigokakpahgkaaGreatDoor

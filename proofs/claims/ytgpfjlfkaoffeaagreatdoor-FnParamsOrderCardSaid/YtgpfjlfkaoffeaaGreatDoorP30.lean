/- What the thin package makes of options and parameters. -/
import Derived.Test.YtgpfjlfkaoffeaaGreatDoorP29
set_option linter.all false
namespace Go.Proofs.YtgpfjlfkaoffeaaGreatDoor
open Go
section
variable {V : Vw} {w0 : World} {t : Nat} {r : PRec} {cs : List Value}
set_option maxHeartbeats 1000000 in
theorem c_pairsOf (hV : V.In w0) {pv : Value} {ps : List PPair} (hP : RPairs V pv ps) (hn : ps.length ≤ 65536) (hd : ∀ p ∈ ps, p.data.length ≤ 65536) :
  CallsV Tryz.prog 171 #[pv] w0 fun v w' => ∃ V' : Vw, St ⟨w0, V, V'⟩ w' [] ∧ RPairs V' v ps := by
 obtain ⟨xs, hS, hR⟩ := hP
 obtain ⟨a, cap, rfl, hcap, ha⟩ := hS.form
 have hs := St.start hV
 refine aT [_] Tryz.func171 Tryz.ntmps171 Tryz.results171 rfl rfl (dP (dN rfl rfl (aH (dP (aJ (o_bslice0 es_26 hs rfl (fun b6 w hb6 he6 hs => ?_)))))))
 have hsl : Sl 25 2 ⟨w0, V, V⟩ w [] (.slice (some ⟨b6, 0, none⟩) 0 0) 0 [] := Sl.empty hs hb6
 refine dN rfl rfl (aH (aF (dP (dM rfl rfl (lp (bC Tryz.underlying209 rfl) rfl (dM rfl rfl (aH (bQ (dC (fun g : Nat × List Value × Value × Vw => upd (upd (upd (upd emp 9 (.int .i64 g.1)) 8 (.int .i64 ps.length)) 7 (.slice a ps.length cap)) 3 g.2.2.1) (fun g w' => Sl 25 2 ⟨w0, V, g.2.2.2⟩ w' [] g.2.2.1 g.1 g.2.1 ∧ Rows 2 (RPair g.2.2.2) (ps.take g.1) g.2.1 ∧ g.1 ≤ ps.length) (fun g => ps.length - g.1) (0, [], .slice (some ⟨b6, 0, none⟩) 0 0, V) (aL rfl (aL rfl (aL rfl (aL rfl (bG _))))) ⟨hsl, rfl, Nat.zero_le _⟩ ?_)))))))))
 clear hsl hs
 rintro ⟨j, ys, sv, Vc⟩ w ⟨hsl, hrows, hj⟩
 simp only at hsl hrows hj ⊢
 have hle := hsl.st.view
 refine dP (lp (cY rfl rfl) rfl (aH (aF (bH rfl (fun hc0 => ?_) (fun hc0 => ?_)))))
 obtain ⟨b, p, rfl, hc⟩ := ha (by omega)
 have hjl : j < ps.length := by omega
 obtain ⟨c, ⟨vd, rfl, hRB⟩, hcl, hct⟩ := hR.at (List.getElem?_eq_getElem hjl)
 have hdl := hd _ (List.getElem_mem hjl)
 obtain ⟨X, hX, hs⟩ := hsl.open
 refine aW (aF (bQ (dP (lp (po_iaN j (p + j * 2) es_209 rfl rfl rfl hjl rfl) rfl ?_))))
 refine lp (aO rfl (ld_cells (l := [.int .u16 ps[j].key, vd]) k_345 rfl (fun i u hu => by
  rw [Nat.add_assoc]
  exact Vw.cell_in hs.isIn (Vw.cell_le hle (hc _ _ (cell_at hct hu)))))) rfl ?_
 refine aJ (aX hs z_345 rfl (fun b5 w hb5 he5 hs => aJ (dR 0 hs k_345 rfl rfl rfl rfl rfl (bX rfl (bX hRB.oneCell flat_nil)) rfl (fun w hs => aH (e_draw (fun w2 => w2.heap[b5]? = some (.cells [Value.int .u16 ps[j].key, vd].toArray 345 (0, 0))) [2, 5] mixed (fun w hw => ?_))))))
 replace hs := hw.st hs
 refine dI 0 rfl (fun w => aC rfl) rfl rfl (dI 1 rfl (fun w => aR fo_345_0 rfl) rfl rfl (dJ 2 rfl (hs.g 0 rfl) rfl (fun w hf => (aO rfl (aQ k_343 hf rfl))) rfl (dI 4 rfl (fun w => aR fo_345_1 rfl) rfl rfl (dJ 5 rfl (hs.g 0 rfl) rfl (fun w hf => (aO rfl (aQ k_23 hf rfl))) rfl (dL 3 rfl (o_bslice0 es_23 hs rfl (fun b16 w hb16 he16 hs => ⟨fun _ => hs.g 1 rfl, dL 6 rfl (o_append (k := ps[j].data.length) (news := ps[j].data.map byteVal) el_23 (.inr ⟨_, Tryz.underlying23⟩) (Sl.empty hs hb16) rfl rfl ((hRB.mono hle).src hs.isIn) (dH _) (by omega) (by omega) rfl (fun v19 w hs => ⟨fun _ => hs.st.get (k := 0) rfl, ?_⟩))⟩)))))))
 obtain ⟨V', hle', hsv, hs⟩ := hs.give
 have hRB' : RB V' v19 ps[j].data := by unfold RB; simpa using hsv
 refine dI 7 rfl (fun w => (bL rfl (by simp only [List.all_cons, List.all_nil, hRB'.oneCell]; rfl) (bu_25_0_1 _ _))) rfl rfl (dL 8 rfl (o_bslice (vls := [[.int .u16 ps[j].key, v19]]) el_26 hs rfl rfl rfl rfl (by simp) (by decide) (by decide) rfl (fun b21 w hb21 he21 hs => ⟨fun _ => hs.g 1 rfl, dL 9 rfl (o_append (k := 1) (news := [.int .u16 ps[j].key, v19]) el_26 (.inr ⟨_, Tryz.underlying26⟩) (SlX.close (L := [_, _]) hX hs) rfl rfl (src_own (k := 0) hs rfl rfl) (bX rfl (bX hRB'.oneCell flat_nil)) (by omega) (by omega) rfl (fun v22 w hs => ⟨fun _ => hs.st.get (k := 1) rfl, ?_⟩))⟩)))
 replace hs := (hs.drop hb21).drop hb5
 refine dI 10 rfl (fun w => aD rfl) rfl rfl (bS (by decide +kernel) (aB (lp (bN rfl rfl (i64c (c := j + 1) (by omega) (by omega))) rfl (dM rfl rfl (aH ?_)))))
 exact ⟨(j + 1, _, v22, V'), aL rfl (aL rfl (aL rfl (aL rfl (bG _)))), ⟨hs, by
  show Rows 2 (RPair V') (ps.take (j + 1)) _
  rw [List.take_succ, List.getElem?_eq_getElem hjl]
  exact Rows.snoc (hrows.mono fun _ _ h => h.mono hle') ⟨v19, rfl, hRB'⟩ rfl, by simp only; omega⟩, by simp only; omega⟩
 refine e_exit (aF ?_)
 have hjn : j = ps.length := by omega
 subst hjn
 rw [List.take_length] at hrows
 obtain ⟨V', hle', hsv, hs⟩ := hsl.give
 refine aB (dM rfl rfl (dN rfl rfl (aH (aV ⟨_, res1 rfl, ?_⟩))))
 exact ⟨V', hs, _, hsv, hrows.mono fun _ _ h => h.mono hle'⟩
def optC (sv : Value) : List Value := recC { kind := 10 } (.slice none 0 0) (.slice none 0 0) sv
set_option maxHeartbeats 1000000 in
theorem c_fromOPT (hV : V.In w0) (hB : BodyC V 10 t r cs) (hsm : Small r) :
  CallsV Tryz.prog 106 #[.agg cs.toArray] w0 fun v w' => ∃ (V' : Vw) (rc : List Value), v = .agg rc.toArray ∧ St ⟨w0, V, V'⟩ w' [] ∧ RRec V' (only 10 t r) rc := by
 obtain ⟨pv, rfl, hP⟩ := hB
 obtain ⟨_, _, hn, hd⟩ := hsm
 obtain ⟨xs, hS, hR⟩ := hP
 obtain ⟨a, cap, rfl, hcap, ha⟩ := hS.form
 have hs := St.start hV
 refine aT [_] Tryz.func106 Tryz.ntmps106 Tryz.results106 rfl rfl (dP (aJ (cR hs rfl rfl rfl (fun b1 w hb1 hbe1 hs => aJ (aX hs z_30 rfl (fun b2 w hb2 he2 hs => aH (dP (lp (bL rfl (by rfl) (bu_30_5 _)) rfl (aJ (aX hs z_30 rfl (fun b3 w hb3 he3 hs => aJ (dR 0 hs k_30 rfl rfl rfl rfl rfl (aG rfl) rfl (fun w hs => aH (aF (dP (lp (aR fo_205_0 rfl) rfl (lp (aO rfl (aQ k_203 (hs.g 2 rfl) rfl)) rfl ?_)))))))))))))))))
 refine lp (bC Tryz.underlying203 rfl) rfl (dM rfl rfl ?_)
 obtain ⟨z2, hz2l, hs⟩ : ∃ z2 : List Value, z2.length = 16 ∧ St ⟨w0, V, V⟩ w [(b3, .cells (optC (.slice none 0 0)).toArray 30 (0, 0)), (b2, .cells z2.toArray 30 (0, 0)), (b1, .cells [Value.slice a r.pairs.length cap].toArray 205 (0, 0))] := ⟨_, rfl, hs⟩
 refine aH (bQ (dC (fun g : Nat × List Value × Value × Vw => upd (upd (upd (upd (upd emp 10 (.int .i64 g.1)) 9 (.int .i64 r.pairs.length)) 8 (.slice a r.pairs.length cap)) 3 (.pointer (some ⟨b3, 0, none⟩))) 2 (.pointer (some ⟨b2, 0, none⟩))) (fun g w' => Sl 25 2 ⟨w0, V, g.2.2.2⟩ w' [(b3, .cells (optC g.2.2.1).toArray 30 (0, 0)), (b2, .cells z2.toArray 30 (0, 0)), (b1, .cells [Value.slice a r.pairs.length cap].toArray 205 (0, 0))] g.2.2.1 g.1 g.2.1 ∧ Rows 2 (RPair g.2.2.2) (r.pairs.take g.1) g.2.1 ∧ g.1 ≤ r.pairs.length) (fun g => r.pairs.length - g.1) (0, [], .slice none 0 0, V) (aL rfl (aL rfl (aL rfl (aL rfl (aL rfl (bG _)))))) ⟨Sl.nil hs, rfl, Nat.zero_le _⟩ ?_))
 clear hs
 rintro ⟨j, ys, sv, Vc⟩ w ⟨hsl, hrows, hj⟩
 simp only at hsl hrows hj ⊢
 have hle := hsl.st.view
 refine dP (lp (cY rfl rfl) rfl (aH (aF (bH rfl (fun hc0 => ?_) (fun hc0 => ?_)))))
 obtain ⟨b, p, rfl, hc⟩ := ha (by omega)
 have hjl : j < r.pairs.length := by omega
 obtain ⟨c, ⟨vd, rfl, hRB⟩, hcl, hct⟩ := hR.at (List.getElem?_eq_getElem hjl)
 have hdl := hd _ (List.getElem_mem hjl)
 obtain ⟨X, hX, hs⟩ := hsl.open
 refine aW (aF (bQ (dP (lp (po_iaN j (p + j * 2) es_203 rfl rfl rfl hjl rfl) rfl ?_))))
 refine lp (aO rfl (ld_cells (l := [.int .u16 r.pairs[j].key, vd]) k_304 rfl (fun i u hu => by
  rw [Nat.add_assoc]
  exact Vw.cell_in hs.isIn (Vw.cell_le hle (hc _ _ (cell_at hct hu)))))) rfl ?_
 refine aJ (aX hs z_304 rfl (fun b5 w hb5 he5 hs => aJ (dR 0 hs k_304 rfl rfl rfl rfl rfl (bX rfl (bX hRB.oneCell flat_nil)) rfl (fun w hs => aH (e_draw (fun w2 => w2.heap[b5]? = some (.cells [Value.int .u16 r.pairs[j].key, vd].toArray 304 (0, 0)) ∧ w2.heap[b3]? = some (.cells (optC sv).toArray 30 (0, 0))) [1, 3, 6] mixed (fun w hw => ?_))))))
 replace hs := hw.st hs
 refine dI 0 rfl (fun w => aR fo_30_15 rfl) rfl rfl (dJ 1 rfl (⟨hs.g 0 rfl, hs.g 1 rfl⟩) rfl (fun w hf => (aO rfl (aQ k_26 hf.2 rfl))) rfl (dI 2 rfl (fun w => aR fo_304_0 rfl) rfl rfl (dJ 3 rfl (⟨hs.g 0 rfl, hs.g 1 rfl⟩) rfl (fun w hf => (aO rfl (aQ k_22 hf.1 rfl))) rfl (dI 5 rfl (fun w => aR fo_304_1 rfl) rfl rfl (dJ 6 rfl (⟨hs.g 0 rfl, hs.g 1 rfl⟩) rfl (fun w hf => (aO rfl (aQ k_23 hf.1 rfl))) rfl (dL 4 rfl (o_bslice0 es_23 hs rfl (fun b18 w hb18 he18 hs => ⟨fun _ => ⟨hs.g 1 rfl, hs.g 2 rfl⟩, dL 7 rfl (o_append (k := r.pairs[j].data.length) (news := r.pairs[j].data.map byteVal) el_23 (.inr ⟨_, Tryz.underlying23⟩) (Sl.empty hs hb18) rfl rfl ((hRB.mono hle).src hs.isIn) (dH _) (by omega) (by omega) rfl (fun v21 w hs => ⟨fun _ => ⟨hs.st.get (k := 0) rfl, hs.st.get (k := 1) rfl⟩, ?_⟩))⟩))))))))
 obtain ⟨V', hle', hsv, hs⟩ := hs.give
 have hRB' : RB V' v21 r.pairs[j].data := by unfold RB; simpa using hsv
 refine dI 8 rfl (fun w => (bL rfl (by simp only [List.all_cons, List.all_nil, hRB'.oneCell]; rfl) (bu_25_0_1 _ _))) rfl rfl (dL 9 rfl (o_bslice (vls := [[.int .u16 r.pairs[j].key, v21]]) el_26 hs rfl rfl rfl rfl (by simp) (by decide) (by decide) rfl (fun b23 w hb23 he23 hs => ⟨fun _ => ⟨hs.g 1 rfl, hs.g 2 rfl⟩, dL 10 rfl (o_append (k := 1) (news := [.int .u16 r.pairs[j].key, v21]) el_26 (.inr ⟨_, Tryz.underlying26⟩) (SlX.close (L := [_, _, _, _, _]) hX hs) rfl rfl (src_own (k := 0) hs rfl rfl) (bX rfl (bX hRB'.oneCell flat_nil)) (by omega) (by omega) rfl (fun v24 w hs => ⟨fun _ => ⟨hs.st.get (k := 1) rfl, hs.st.get (k := 2) rfl⟩, ?_⟩))⟩)))
 have hone := hs.oneCell
 obtain ⟨X2, hX2, hs⟩ := ((hs.drop hb23).drop hb5).open
 refine dI 11 rfl (fun w => aR fo_30_15 rfl) rfl rfl (dL 12 rfl (dQ 0 hs k_26 rfl rfl rfl hone rfl rfl rfl (fun w hs => ⟨fun h => absurd h (by decide +kernel), bS (by decide +kernel) (aB (lp (bN rfl rfl (i64c (c := j + 1) (by omega) (by omega))) rfl (dM rfl rfl (aH ?_))))⟩)))
 exact ⟨(j + 1, _, v24, V'), aL rfl (aL rfl (aL rfl (aL rfl (aL rfl (bG _))))), ⟨SlX.close (L := [_, _, _]) hX2 hs, by
  show Rows 2 (RPair V') (r.pairs.take (j + 1)) _
  rw [List.take_succ, List.getElem?_eq_getElem hjl]
  exact Rows.snoc (hrows.mono fun _ _ h => h.mono hle') ⟨v21, rfl, hRB'⟩ rfl, by simp only; omega⟩, by simp only; omega⟩
 refine e_exit (aF ?_)
 have hjn : j = r.pairs.length := by omega
 subst hjn
 rw [List.take_length] at hrows
 have hone := hsl.oneCell
 obtain ⟨V', hle', hsv, hs⟩ := hsl.give
 refine aB (lp (aO rfl (aP k_30 (hs.g 0 rfl) rfl)) rfl (aJ (dR 1 hs k_30 rfl rfl rfl rfl hz2l (aG (by unfold optC recC; simp only [List.all_cons, List.all_nil, hone]; rfl)) rfl (fun w hs => aH (aV ⟨_, res1 ⟨_, rfl, aP k_30 (hs.g 1 rfl) rfl⟩, ?_⟩)))))
 exact ⟨V', _, rfl, ((hs.drop hb3).drop hb2).drop hb1, _, _, _, rfl, RB.nil V', RTexts.nil V', _, hsv, hrows.mono fun _ _ h => h.mono hle'⟩
theorem c_fromSVCB (hV : V.In w0) (hB : BodyC V 11 t r cs) (hsm : Small r) :
  CallsV Tryz.prog 108 #[.agg cs.toArray] w0 fun v w' => ∃ (V' : Vw) (vp : Value), v = .agg (recC (only 11 t r) (.slice none 0 0) (.slice none 0 0) vp).toArray ∧ St ⟨w0, V, V'⟩ w' [] ∧ RPairs V' vp r.pairs := by
 obtain ⟨pv, rfl, hn, hx1, hP⟩ := hB
 obtain ⟨_, _, hn2, hd⟩ := hsm
 have hnl := cM (out := r.host) (n := r.host.length) (by omega)
 have hnl' : (Value.int .u16 r.n1 :: nmC r.host r.host.length).length = 257 := by simp [hnl]
 have hs := St.start hV
 refine aT [_] Tryz.func108 Tryz.ntmps108 Tryz.results108 rfl rfl (dP (aJ (cR hs rfl rfl rfl (fun b1 w hb1 hbe1 hs => aJ (aX hs z_30 rfl (fun b2 w hb2 he2 hs => aH (aF (bV hs [1, 4, 7] mixed (fun w hs => dI 0 rfl (fun w => aR fo_211_0 rfl) rfl rfl (dJ 1 rfl hs rfl (fun w hs => (aO rfl (aQ k_22 (hs.g 1 rfl) rfl))) rfl (dI 2 rfl (fun w => (bY Tryz.underlying22 Tryz.underlying27 rfl (u32c (c := r.n1) rfl (by omega)))) rfl rfl (dI 3 rfl (fun w => aR fo_211_1 rfl) rfl rfl (dJ 4 rfl hs rfl (fun w hs => (aO rfl (ld_part (pre := [.int .u16 r.n1]) (a := nmC r.host r.host.length) (post := [pv]) k_86 (hs.g 1 rfl) rfl hnl))) rfl (dI 6 rfl (fun w => aR fo_211_2 rfl) rfl rfl (dJ 7 rfl hs rfl (fun w hs => (aO rfl (cT (a := .int .u16 r.n1 :: nmC r.host r.host.length) (l := [pv]) k_209 (hs.g 1 rfl) hnl' (i := 0) rfl rfl))) rfl ?_)))))))))))))))
 refine dL 5 rfl (cF (cD rfl rfl ok_113 (c_textOf hs.isIn r.host hn)) rfl (fun v8 w HF => ?_))
 obtain ⟨rfl, hc⟩ := HF
 replace hs := hs.frame hc
 refine ⟨fun _ => hs, dL 8 rfl (cF (cD rfl rfl ok_171 (c_pairsOf hs.isIn hP hn2 hd)) rfl (fun v11 w HF => ?_))⟩
 obtain ⟨V', hc, hRP⟩ := HF
 replace hs := hs.frame hc
 refine ⟨fun _ => hs.less, dI 9 rfl (fun w => (bL rfl (by simp only [List.all_cons, List.all_nil, hRP.oneCell]; rfl) (bu_30_5_9_7_15 _ _ _ _))) rfl rfl (dL 10 rfl (dR 0 hs k_30 rfl rfl rfl rfl rfl (aG (by simp only [List.all_cons, List.all_nil, hRP.oneCell]; rfl)) rfl (fun w hs => ⟨fun h => absurd h (by decide +kernel), bS (by decide +kernel) (aV ⟨_, res1 ⟨_, rfl, aP k_30 (hs.g 0 rfl) rfl⟩, ?_⟩)⟩)))⟩
 exact ⟨V', _, rfl, (hs.drop hb2).drop hb1, hRP⟩
theorem c_fromHTTPS (hV : V.In w0) (hB : BodyC V 12 t r cs) (hsm : Small r) :
  CallsV Tryz.prog 110 #[.agg cs.toArray] w0 fun v w' => ∃ (V' : Vw) (rc : List Value), v = .agg rc.toArray ∧ St ⟨w0, V, V'⟩ w' [] ∧ RRec V' (only 12 t r) rc := by
 have hB' : BodyC V 11 t r cs := hB
 have hcl : cs.length = 258 := by
  obtain ⟨pv, rfl, hn, _⟩ := hB
  have hnl := cM (out := r.host) (n := r.host.length) (by omega)
  simp [hnl]
 have hs := St.start hV
 refine aT [_] Tryz.func110 Tryz.ntmps110 Tryz.results110 rfl rfl (dP (aJ (cR hs rfl rfl rfl (fun b1 w hb1 hbe1 hs => aJ (aX hs z_30 rfl (fun b2 w hb2 he2 hs => aH (dP (lp (aR fo_216_0 rfl) rfl (lp (aO rfl (aP k_211 (hs.g 1 rfl) hcl)) rfl (aZ ok_108 rfl rfl (c_fromSVCB hs.isIn hB' hsm) rfl (fun v6 w HF => ?_)))))))))))
 obtain ⟨V', vp, rfl, hc, hRP⟩ := HF
 replace hs := hs.frame hc
 refine aJ (aX hs z_30 rfl (fun b3 w hb3 he3 hs => aJ (dR 0 hs k_30 rfl rfl rfl rfl rfl (aG (by unfold recC; simp only [List.all_cons, List.all_nil, hRP.oneCell]; rfl)) rfl (fun w hs => aH (dP (lp (aR fo_30_5 rfl) rfl (aJ (dQ 0 hs cH rfl rfl rfl rfl rfl rfl rfl (fun w hs => aH (dP (lp (aO rfl (aP k_30 (hs.g 0 rfl) (by simp))) rfl (aJ (dR 1 hs k_30 rfl rfl rfl rfl rfl (aG (by simp only [List.all_cons, List.all_nil, hRP.oneCell]; rfl)) rfl (fun w hs => aH (aV ⟨_, res1 ⟨_, rfl, aP k_30 (hs.g 1 rfl) rfl⟩, ?_⟩)))))))))))))))
 exact ⟨V', _, rfl, ((hs.drop hb3).drop hb2).drop hb1, _, _, _, rfl, RB.nil V', RTexts.nil V', hRP⟩
end
end Go.Proofs.YtgpfjlfkaoffeaaGreatDoor

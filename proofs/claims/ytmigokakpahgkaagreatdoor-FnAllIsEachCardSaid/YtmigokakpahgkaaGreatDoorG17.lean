/- What the thin package makes of options and parameters. A body behind an interface, and whole records, as the thin package has them. -/
import Derived.Test.YtmigokakpahgkaaGreatDoorG16
set_option linter.all false
namespace Go.Proofs.YtmigokakpahgkaaGreatDoor
open Go
section
variable {V : Vw} {w0 : World} {t : Nat} {r : PRec} {cs : List Value}
set_option maxHeartbeats 1000000 in
theorem c_pairsOf (hV : V.In w0) {pv : Value} {ps : List PPair} (hP : RPairs V pv ps) (hn : ps.length ≤ 65536) (hd : ∀ p ∈ ps, p.data.length ≤ 65536) :
  CallsV Tryz.prog 134 #[pv] w0 fun v w' => ∃ V' : Vw, St ⟨w0, V, V'⟩ w' [] ∧ RPairs V' v ps := by
 obtain ⟨xs, hS, hR⟩ := hP
 obtain ⟨a, cap, rfl, hcap, ha⟩ := hS.form
 have hs := St.start hV
 refine aT [_] Tryz.func134 Tryz.ntmps134 Tryz.results134 rfl rfl (dP (dN rfl rfl (aH (dP (aJ (o_bslice0 es_70 hs rfl (fun b6 w hb6 he6 hs => ?_)))))))
 have hsl : Sl 242 2 ⟨w0, V, V⟩ w [] (.slice (some ⟨b6, 0, none⟩) 0 0) 0 [] := Sl.empty hs hb6
 refine dN rfl rfl (aH (aF (dP (dM rfl rfl (lp (bC Tryz.underlying180 rfl) rfl (dM rfl rfl (aH (bQ (dC (fun g : Nat × List Value × Value × Vw => upd (upd (upd (upd emp 9 (.int .i64 g.1)) 8 (.int .i64 ps.length)) 7 (.slice a ps.length cap)) 3 g.2.2.1) (fun g w' => Sl 242 2 ⟨w0, V, g.2.2.2⟩ w' [] g.2.2.1 g.1 g.2.1 ∧ Rows 2 (RPair g.2.2.2) (ps.take g.1) g.2.1 ∧ g.1 ≤ ps.length) (fun g => ps.length - g.1) (0, [], .slice (some ⟨b6, 0, none⟩) 0 0, V) (aL rfl (aL rfl (aL rfl (aL rfl (bG _))))) ⟨hsl, rfl, Nat.zero_le _⟩ ?_)))))))))
 clear hsl hs
 rintro ⟨j, ys, sv, Vc⟩ w ⟨hsl, hrows, hj⟩
 simp only at hsl hrows hj ⊢
 have hle := hsl.st.view
 refine dP (lp (cY rfl rfl) rfl (aH (aF (bH rfl (fun hc0 => ?_) (fun hc0 => ?_)))))
 obtain ⟨b, p, rfl, hc⟩ := ha (by omega)
 have hjl : j < ps.length := by omega
 obtain ⟨c, ⟨vd, rfl, hRB⟩, hcl, hct⟩ := hR.at (List.getElem?_eq_getElem hjl)
 have hdl := hd _ (List.getElem_mem hjl)
 obtain ⟨X, hX, hs⟩ := hsl.open
 refine aW (aF (bQ (dP (lp (po_iaN j (p + j * 2) es_180 rfl rfl rfl hjl rfl) rfl ?_))))
 refine lp (aO rfl (ld_cells (l := [.int .u16 ps[j].key, vd]) k_286 rfl (fun i u hu => by
  rw [Nat.add_assoc]
  exact Vw.cell_in hs.isIn (Vw.cell_le hle (hc _ _ (cell_at hct hu)))))) rfl ?_
 refine aJ (aX hs z_286 rfl (fun b5 w hb5 he5 hs => aJ (dR 0 hs k_286 rfl rfl rfl rfl rfl (bX rfl (bX hRB.oneCell flat_nil)) rfl (fun w hs => aH (e_draw (fun w2 => w2.heap[b5]? = some (.cells [Value.int .u16 ps[j].key, vd].toArray 286 (0, 0))) [2, 5] mixed (fun w hw => ?_))))))
 replace hs := hw.st hs
 refine dI 0 rfl (fun w => aC rfl) rfl rfl (dI 1 rfl (fun w => aR fo_286_0 rfl) rfl rfl (dJ 2 rfl (hs.g 0 rfl) rfl (fun w hf => (aO rfl (aQ k_284 hf rfl))) rfl (dI 4 rfl (fun w => aR fo_286_1 rfl) rfl rfl (dJ 5 rfl (hs.g 0 rfl) rfl (fun w hf => (aO rfl (aQ k_22 hf rfl))) rfl (dL 3 rfl (o_bslice0 es_22 hs rfl (fun b16 w hb16 he16 hs => ⟨fun _ => hs.g 1 rfl, dL 6 rfl (o_append (k := ps[j].data.length) (news := ps[j].data.map byteVal) el_22 (.inr ⟨_, Tryz.underlying22⟩) (Sl.empty hs hb16) rfl rfl ((hRB.mono hle).src hs.isIn) (dH _) (by omega) (by omega) rfl (fun v19 w hs => ⟨fun _ => hs.st.get (k := 0) rfl, ?_⟩))⟩)))))))
 obtain ⟨V', hle', hsv, hs⟩ := hs.give
 have hRB' : RB V' v19 ps[j].data := by unfold RB; simpa using hsv
 refine dI 7 rfl (fun w => (bL rfl (by simp only [List.all_cons, List.all_nil, hRB'.oneCell]; rfl) (bu_242_0_1 _ _))) rfl rfl (dL 8 rfl (o_bslice (vls := [[.int .u16 ps[j].key, v19]]) el_70 hs rfl rfl rfl rfl (by simp) (by decide) (by decide) rfl (fun b21 w hb21 he21 hs => ⟨fun _ => hs.g 1 rfl, dL 9 rfl (o_append (k := 1) (news := [.int .u16 ps[j].key, v19]) el_70 (.inr ⟨_, Tryz.underlying70⟩) (SlX.close (L := [_, _]) hX hs) rfl rfl (src_own (k := 0) hs rfl rfl) (bX rfl (bX hRB'.oneCell flat_nil)) (by omega) (by omega) rfl (fun v22 w hs => ⟨fun _ => hs.st.get (k := 1) rfl, ?_⟩))⟩)))
 replace hs := (hs.drop hb21).drop hb5
 refine dI 10 rfl (fun w => aD rfl) rfl rfl (bS (by decide +kernel) (aB (lp (bN rfl rfl (i64c (c := j + 1) (by omega) (by omega))) rfl (dM rfl rfl (aH ?_)))))
 exact ⟨(j + 1, _, v22, V'), aL rfl (aL rfl (aL rfl (aL rfl (bG _)))), ⟨hs, by
  show Rows 2 (RPair V') (ps.take (j + 1)) _
  rw [List.take_succ, List.getElem?_eq_getElem hjl]
  exact Rows.snoc (hrows.mono fun _ _ h => h.mono hle') ⟨v19, rfl, hRB'⟩ rfl, by simp only; omega⟩, by simp only; omega⟩
 refine e_exit (aF ?_)
 have hjn : j = ps.length := by omega
 subst hjn
 rw [List.take_length] at hrows
 obtain ⟨V', hle', hsv, hs⟩ := hsl.give
 refine aB (dM rfl rfl (dN rfl rfl (aH (aV ⟨_, res1 rfl, ?_⟩))))
 exact ⟨V', hs, _, hsv, hrows.mono fun _ _ h => h.mono hle'⟩
def optC (sv : Value) : List Value := recC { kind := 10 } (.slice none 0 0) (.slice none 0 0) sv
set_option maxHeartbeats 1000000 in
theorem c_fromOPT (hV : V.In w0) (hB : BodyC V 10 t r cs) (hsm : Small r) :
  CallsV Tryz.prog 87 #[.agg cs.toArray] w0 fun v w' => ∃ (V' : Vw) (rc : List Value), v = .agg rc.toArray ∧ St ⟨w0, V, V'⟩ w' [] ∧ RRec V' (only 10 t r) rc := by
 obtain ⟨pv, rfl, hP⟩ := hB
 obtain ⟨_, _, hn, hd⟩ := hsm
 obtain ⟨xs, hS, hR⟩ := hP
 obtain ⟨a, cap, rfl, hcap, ha⟩ := hS.form
 have hs := St.start hV
 refine aT [_] Tryz.func87 Tryz.ntmps87 Tryz.results87 rfl rfl (dP (aJ (cR hs rfl rfl rfl (fun b1 w hb1 hbe1 hs => aJ (aX hs z_72 rfl (fun b2 w hb2 he2 hs => aH (dP (lp (bL rfl (by rfl) (bu_72_5 _)) rfl (aJ (aX hs z_72 rfl (fun b3 w hb3 he3 hs => aJ (dR 0 hs bT rfl rfl rfl rfl rfl (aG rfl) rfl (fun w hs => aH (aF (dP (lp (aR fo_176_0 rfl) rfl (lp (aO rfl (aQ k_174 (hs.g 2 rfl) rfl)) rfl ?_)))))))))))))))))
 refine lp (bC Tryz.underlying174 rfl) rfl (dM rfl rfl ?_)
 obtain ⟨z2, hz2l, hs⟩ : ∃ z2 : List Value, z2.length = 16 ∧ St ⟨w0, V, V⟩ w [(b3, .cells (optC (.slice none 0 0)).toArray 72 (0, 0)), (b2, .cells z2.toArray 72 (0, 0)), (b1, .cells [Value.slice a r.pairs.length cap].toArray 176 (0, 0))] := ⟨_, rfl, hs⟩
 refine aH (bQ (dC (fun g : Nat × List Value × Value × Vw => upd (upd (upd (upd (upd emp 10 (.int .i64 g.1)) 9 (.int .i64 r.pairs.length)) 8 (.slice a r.pairs.length cap)) 3 (.pointer (some ⟨b3, 0, none⟩))) 2 (.pointer (some ⟨b2, 0, none⟩))) (fun g w' => Sl 242 2 ⟨w0, V, g.2.2.2⟩ w' [(b3, .cells (optC g.2.2.1).toArray 72 (0, 0)), (b2, .cells z2.toArray 72 (0, 0)), (b1, .cells [Value.slice a r.pairs.length cap].toArray 176 (0, 0))] g.2.2.1 g.1 g.2.1 ∧ Rows 2 (RPair g.2.2.2) (r.pairs.take g.1) g.2.1 ∧ g.1 ≤ r.pairs.length) (fun g => r.pairs.length - g.1) (0, [], .slice none 0 0, V) (aL rfl (aL rfl (aL rfl (aL rfl (aL rfl (bG _)))))) ⟨Sl.nil hs, rfl, Nat.zero_le _⟩ ?_))
 clear hs
 rintro ⟨j, ys, sv, Vc⟩ w ⟨hsl, hrows, hj⟩
 simp only at hsl hrows hj ⊢
 have hle := hsl.st.view
 refine dP (lp (cY rfl rfl) rfl (aH (aF (bH rfl (fun hc0 => ?_) (fun hc0 => ?_)))))
 obtain ⟨b, p, rfl, hc⟩ := ha (by omega)
 have hjl : j < r.pairs.length := by omega
 obtain ⟨c, ⟨vd, rfl, hRB⟩, hcl, hct⟩ := hR.at (List.getElem?_eq_getElem hjl)
 have hdl := hd _ (List.getElem_mem hjl)
 obtain ⟨X, hX, hs⟩ := hsl.open
 refine aW (aF (bQ (dP (lp (po_iaN j (p + j * 2) es_174 rfl rfl rfl hjl rfl) rfl ?_))))
 refine lp (aO rfl (ld_cells (l := [.int .u16 r.pairs[j].key, vd]) k_240 rfl (fun i u hu => by
  rw [Nat.add_assoc]
  exact Vw.cell_in hs.isIn (Vw.cell_le hle (hc _ _ (cell_at hct hu)))))) rfl ?_
 refine aJ (aX hs z_240 rfl (fun b5 w hb5 he5 hs => aJ (dR 0 hs k_240 rfl rfl rfl rfl rfl (bX rfl (bX hRB.oneCell flat_nil)) rfl (fun w hs => aH (e_draw (fun w2 => w2.heap[b5]? = some (.cells [Value.int .u16 r.pairs[j].key, vd].toArray 240 (0, 0)) ∧ w2.heap[b3]? = some (.cells (optC sv).toArray 72 (0, 0))) [1, 3, 6] mixed (fun w hw => ?_))))))
 replace hs := hw.st hs
 refine dI 0 rfl (fun w => aR fo_72_15 rfl) rfl rfl (dJ 1 rfl (⟨hs.g 0 rfl, hs.g 1 rfl⟩) rfl (fun w hf => (aO rfl (aQ k_70 hf.2 rfl))) rfl (dI 2 rfl (fun w => aR fo_240_0 rfl) rfl rfl (dJ 3 rfl (⟨hs.g 0 rfl, hs.g 1 rfl⟩) rfl (fun w hf => (aO rfl (aQ cB hf.1 rfl))) rfl (dI 5 rfl (fun w => aR fo_240_1 rfl) rfl rfl (dJ 6 rfl (⟨hs.g 0 rfl, hs.g 1 rfl⟩) rfl (fun w hf => (aO rfl (aQ k_22 hf.1 rfl))) rfl (dL 4 rfl (o_bslice0 es_22 hs rfl (fun b18 w hb18 he18 hs => ⟨fun _ => ⟨hs.g 1 rfl, hs.g 2 rfl⟩, dL 7 rfl (o_append (k := r.pairs[j].data.length) (news := r.pairs[j].data.map byteVal) el_22 (.inr ⟨_, Tryz.underlying22⟩) (Sl.empty hs hb18) rfl rfl ((hRB.mono hle).src hs.isIn) (dH _) (by omega) (by omega) rfl (fun v21 w hs => ⟨fun _ => ⟨hs.st.get (k := 0) rfl, hs.st.get (k := 1) rfl⟩, ?_⟩))⟩))))))))
 obtain ⟨V', hle', hsv, hs⟩ := hs.give
 have hRB' : RB V' v21 r.pairs[j].data := by unfold RB; simpa using hsv
 refine dI 8 rfl (fun w => (bL rfl (by simp only [List.all_cons, List.all_nil, hRB'.oneCell]; rfl) (bu_242_0_1 _ _))) rfl rfl (dL 9 rfl (o_bslice (vls := [[.int .u16 r.pairs[j].key, v21]]) el_70 hs rfl rfl rfl rfl (by simp) (by decide) (by decide) rfl (fun b23 w hb23 he23 hs => ⟨fun _ => ⟨hs.g 1 rfl, hs.g 2 rfl⟩, dL 10 rfl (o_append (k := 1) (news := [.int .u16 r.pairs[j].key, v21]) el_70 (.inr ⟨_, Tryz.underlying70⟩) (SlX.close (L := [_, _, _, _, _]) hX hs) rfl rfl (src_own (k := 0) hs rfl rfl) (bX rfl (bX hRB'.oneCell flat_nil)) (by omega) (by omega) rfl (fun v24 w hs => ⟨fun _ => ⟨hs.st.get (k := 1) rfl, hs.st.get (k := 2) rfl⟩, ?_⟩))⟩)))
 have hone := hs.oneCell
 obtain ⟨X2, hX2, hs⟩ := ((hs.drop hb23).drop hb5).open
 refine dI 11 rfl (fun w => aR fo_72_15 rfl) rfl rfl (dL 12 rfl (dQ 0 hs k_70 rfl rfl rfl hone rfl rfl rfl (fun w hs => ⟨fun h => absurd h (by decide +kernel), bS (by decide +kernel) (aB (lp (bN rfl rfl (i64c (c := j + 1) (by omega) (by omega))) rfl (dM rfl rfl (aH ?_))))⟩)))
 exact ⟨(j + 1, _, v24, V'), aL rfl (aL rfl (aL rfl (aL rfl (aL rfl (bG _))))), ⟨SlX.close (L := [_, _, _]) hX2 hs, by
  show Rows 2 (RPair V') (r.pairs.take (j + 1)) _
  rw [List.take_succ, List.getElem?_eq_getElem hjl]
  exact Rows.snoc (hrows.mono fun _ _ h => h.mono hle') ⟨v21, rfl, hRB'⟩ rfl, by simp only; omega⟩, by simp only; omega⟩
 refine e_exit (aF ?_)
 have hjn : j = r.pairs.length := by omega
 subst hjn
 rw [List.take_length] at hrows
 have hone := hsl.oneCell
 obtain ⟨V', hle', hsv, hs⟩ := hsl.give
 refine aB (lp (aO rfl (aP bT (hs.g 0 rfl) rfl)) rfl (aJ (dR 1 hs bT rfl rfl rfl rfl hz2l (aG (by unfold optC recC; simp only [List.all_cons, List.all_nil, hone]; rfl)) rfl (fun w hs => aH (aV ⟨_, res1 ⟨_, rfl, aP bT (hs.g 1 rfl) rfl⟩, ?_⟩)))))
 exact ⟨V', _, rfl, ((hs.drop hb3).drop hb2).drop hb1, _, _, _, rfl, RB.nil V', RTexts.nil V', _, hsv, hrows.mono fun _ _ h => h.mono hle'⟩
theorem c_fromSVCB (hV : V.In w0) (hB : BodyC V 11 t r cs) (hsm : Small r) :
  CallsV Tryz.prog 89 #[.agg cs.toArray] w0 fun v w' => ∃ (V' : Vw) (vp : Value), v = .agg (recC (only 11 t r) (.slice none 0 0) (.slice none 0 0) vp).toArray ∧ St ⟨w0, V, V'⟩ w' [] ∧ RPairs V' vp r.pairs := by
 obtain ⟨pv, rfl, hn, hx1, hP⟩ := hB
 obtain ⟨_, _, hn2, hd⟩ := hsm
 have hnl := cM (out := r.host) (n := r.host.length) (by omega)
 have hnl' : (Value.int .u16 r.n1 :: nmC r.host r.host.length).length = 257 := by simp [hnl]
 have hs := St.start hV
 refine aT [_] Tryz.func89 Tryz.ntmps89 Tryz.results89 rfl rfl (dP (aJ (cR hs rfl rfl rfl (fun b1 w hb1 hbe1 hs => aJ (aX hs z_72 rfl (fun b2 w hb2 he2 hs => aH (aF (bV hs [1, 4, 7] mixed (fun w hs => dI 0 rfl (fun w => aR fo_182_0 rfl) rfl rfl (dJ 1 rfl hs rfl (fun w hs => (aO rfl (aQ cB (hs.g 1 rfl) rfl))) rfl (dI 2 rfl (fun w => (bY Tryz.underlying27 Tryz.underlying68 rfl (u32c (c := r.n1) rfl (by omega)))) rfl rfl (dI 3 rfl (fun w => aR fo_182_1 rfl) rfl rfl (dJ 4 rfl hs rfl (fun w hs => (aO rfl (ld_part (pre := [.int .u16 r.n1]) (a := nmC r.host r.host.length) (post := [pv]) k_99 (hs.g 1 rfl) rfl hnl))) rfl (dI 6 rfl (fun w => aR fo_182_2 rfl) rfl rfl (dJ 7 rfl hs rfl (fun w hs => (aO rfl (cT (a := .int .u16 r.n1 :: nmC r.host r.host.length) (l := [pv]) k_180 (hs.g 1 rfl) hnl' (i := 0) rfl rfl))) rfl ?_)))))))))))))))
 refine dL 5 rfl (cF (cD rfl rfl ok_115 (c_textOf hs.isIn r.host hn)) rfl (fun v8 w HF => ?_))
 obtain ⟨rfl, hc⟩ := HF
 replace hs := hs.frame hc
 refine ⟨fun _ => hs, dL 8 rfl (cF (cD rfl rfl ok_134 (c_pairsOf hs.isIn hP hn2 hd)) rfl (fun v11 w HF => ?_))⟩
 obtain ⟨V', hc, hRP⟩ := HF
 replace hs := hs.frame hc
 refine ⟨fun _ => hs.less, dI 9 rfl (fun w => (bL rfl (by simp only [List.all_cons, List.all_nil, hRP.oneCell]; rfl) (bu_72_5_9_7_15 _ _ _ _))) rfl rfl (dL 10 rfl (dR 0 hs bT rfl rfl rfl rfl rfl (aG (by simp only [List.all_cons, List.all_nil, hRP.oneCell]; rfl)) rfl (fun w hs => ⟨fun h => absurd h (by decide +kernel), bS (by decide +kernel) (aV ⟨_, res1 ⟨_, rfl, aP bT (hs.g 0 rfl) rfl⟩, ?_⟩)⟩)))⟩
 exact ⟨V', _, rfl, (hs.drop hb2).drop hb1, hRP⟩
theorem c_fromHTTPS (hV : V.In w0) (hB : BodyC V 12 t r cs) (hsm : Small r) :
  CallsV Tryz.prog 91 #[.agg cs.toArray] w0 fun v w' => ∃ (V' : Vw) (rc : List Value), v = .agg rc.toArray ∧ St ⟨w0, V, V'⟩ w' [] ∧ RRec V' (only 12 t r) rc := by
 have hB' : BodyC V 11 t r cs := hB
 have hcl : cs.length = 258 := by
  obtain ⟨pv, rfl, hn, _⟩ := hB
  have hnl := cM (out := r.host) (n := r.host.length) (by omega)
  simp [hnl]
 have hs := St.start hV
 refine aT [_] Tryz.func91 Tryz.ntmps91 Tryz.results91 rfl rfl (dP (aJ (cR hs rfl rfl rfl (fun b1 w hb1 hbe1 hs => aJ (aX hs z_72 rfl (fun b2 w hb2 he2 hs => aH (dP (lp (aR fo_187_0 rfl) rfl (lp (aO rfl (aP k_182 (hs.g 1 rfl) hcl)) rfl (aZ ok_89 rfl rfl (c_fromSVCB hs.isIn hB' hsm) rfl (fun v6 w HF => ?_)))))))))))
 obtain ⟨V', vp, rfl, hc, hRP⟩ := HF
 replace hs := hs.frame hc
 refine aJ (aX hs z_72 rfl (fun b3 w hb3 he3 hs => aJ (dR 0 hs bT rfl rfl rfl rfl rfl (aG (by unfold recC; simp only [List.all_cons, List.all_nil, hRP.oneCell]; rfl)) rfl (fun w hs => aH (dP (lp (aR fo_72_5 rfl) rfl (aJ (dQ 0 hs cH rfl rfl rfl rfl rfl rfl rfl (fun w hs => aH (dP (lp (aO rfl (aP bT (hs.g 0 rfl) (by simp))) rfl (aJ (dR 1 hs bT rfl rfl rfl rfl rfl (aG (by simp only [List.all_cons, List.all_nil, hRP.oneCell]; rfl)) rfl (fun w hs => aH (aV ⟨_, res1 ⟨_, rfl, aP bT (hs.g 1 rfl) rfl⟩, ?_⟩)))))))))))))))
 exact ⟨V', _, rfl, ((hs.drop hb3).drop hb2).drop hb1, _, _, _, rfl, RB.nil V', RTexts.nil V', hRP⟩
end
end Go.Proofs.YtmigokakpahgkaaGreatDoor
namespace Go.Proofs.YtmigokakpahgkaaGreatDoor
open Go
theorem bodyC_len1 {V : Vw} {t : Nat} {r : PRec} {cs : List Value} (hB : BodyC V 1 t r cs) : cs.length = 4 := by obtain ⟨rfl, h⟩ := hB; simp [h]
theorem bodyC_len2 {V : Vw} {t : Nat} {r : PRec} {cs : List Value} (hB : BodyC V 2 t r cs) : cs.length = 256 := by obtain ⟨rfl, h⟩ := hB; exact cM (by omega)
theorem bodyC_len3 {V : Vw} {t : Nat} {r : PRec} {cs : List Value} (hB : BodyC V 3 t r cs) : cs.length = 256 := by obtain ⟨rfl, h⟩ := hB; exact cM (by omega)
theorem bodyC_len4 {V : Vw} {t : Nat} {r : PRec} {cs : List Value} (hB : BodyC V 4 t r cs) : cs.length = 517 := by obtain ⟨rfl, h, h2⟩ := hB; simp [cM (show r.host.length ≤ 255 by omega), cM (show r.box.length ≤ 255 by omega)]
theorem bodyC_len5 {V : Vw} {t : Nat} {r : PRec} {cs : List Value} (hB : BodyC V 5 t r cs) : cs.length = 256 := by obtain ⟨rfl, h⟩ := hB; exact cM (by omega)
theorem bodyC_len6 {V : Vw} {t : Nat} {r : PRec} {cs : List Value} (hB : BodyC V 6 t r cs) : cs.length = 257 := by obtain ⟨rfl, h, _⟩ := hB; simp [cM (show r.host.length ≤ 255 by omega)]
theorem bodyC_len7 {V : Vw} {t : Nat} {r : PRec} {cs : List Value} (hB : BodyC V 7 t r cs) : cs.length = 1 := by obtain ⟨v, rfl, h⟩ := hB; rfl
theorem bodyC_len8 {V : Vw} {t : Nat} {r : PRec} {cs : List Value} (hB : BodyC V 8 t r cs) : cs.length = 16 := by obtain ⟨rfl, h⟩ := hB; simp [h]
theorem bodyC_len9 {V : Vw} {t : Nat} {r : PRec} {cs : List Value} (hB : BodyC V 9 t r cs) : cs.length = 259 := by obtain ⟨rfl, h, _⟩ := hB; simp [cM (show r.host.length ≤ 255 by omega)]
theorem bodyC_len10 {V : Vw} {t : Nat} {r : PRec} {cs : List Value} (hB : BodyC V 10 t r cs) : cs.length = 1 := by obtain ⟨v, rfl, h⟩ := hB; rfl
theorem bodyC_len11 {V : Vw} {t : Nat} {r : PRec} {cs : List Value} (hB : BodyC V 11 t r cs) : cs.length = 258 := by obtain ⟨v, rfl, h, _⟩ := hB; simp [cM (show r.host.length ≤ 255 by omega)]
theorem bodyC_len12 {V : Vw} {t : Nat} {r : PRec} {cs : List Value} (hB : BodyC V 12 t r cs) : cs.length = 258 := by obtain ⟨v, rfl, h, _⟩ := hB; simp [cM (show r.host.length ≤ 255 by omega)]
theorem bodyC_len13 {V : Vw} {t : Nat} {r : PRec} {cs : List Value} (hB : BodyC V 13 t r cs) : cs.length = 2 := by obtain ⟨v, rfl, h⟩ := hB; rfl
section
variable {V : Vw} {w0 : World} {t : Nat} {r : PRec} {cs : List Value} {E : TypeId} {b : Nat}
theorem c_fromBody1 (hV : V.In w0) (hb : V b = some (.cells cs.toArray E (0, 0))) (hB : BodyC V 1 t r cs) (hsm : Small r) :
  CallsV Tryz.prog 147 #[.iface 287 (.pointer (some ⟨b, 0, none⟩))] w0 fun v w' => ∃ (V' : Vw) (rc : List Value), v = .agg rc.toArray ∧ St ⟨w0, V, V'⟩ w' [] ∧ RRec V' (only 1 t r) rc := by
 have hs := St.start hV
 have hl := bodyC_len1 hB
 refine aT [_] Tryz.func147 Tryz.ntmps147 Tryz.results147 rfl rfl (dP (aJ (aX hs z_72 rfl (fun b2 w hb2 he2 hs => aH (aF (dP (dM rfl rfl (aH (bQ (dP (lp (po_ta_yes Tryz.underlying287 rfl) rfl (dO rfl rfl rfl (dO rfl rfl rfl (aH ?_))))))))))))))
 refine cO rfl rfl (dP (dN rfl rfl (aH (dP (dM rfl rfl (lp (aN rfl) rfl (lp (aO rfl (aP k_128 (hs.cell hb) hl)) rfl (aZ ok_69 rfl rfl (c_fromA hs.isIn hB hsm) rfl (fun v23 w HF => ?_)))))))))
 obtain ⟨V', rc, rfl, hc, hR⟩ := HF
 replace hs := hs.frame hc
 refine aJ (dR 0 hs bT rfl rfl rfl hR.flat.2 rfl hR.flat.1 rfl (fun w hs => aH (aV ⟨_, res1 ⟨_, rfl, aP bT (hs.g 0 rfl) hR.flat.2⟩, ?_⟩)))
 exact ⟨V', _, rfl, hs.drop hb2, hR⟩
theorem c_fromBody2 (hV : V.In w0) (hb : V b = some (.cells cs.toArray E (0, 0))) (hB : BodyC V 2 t r cs) (hsm : Small r) :
  CallsV Tryz.prog 147 #[.iface 288 (.pointer (some ⟨b, 0, none⟩))] w0 fun v w' => ∃ (V' : Vw) (rc : List Value), v = .agg rc.toArray ∧ St ⟨w0, V, V'⟩ w' [] ∧ RRec V' (only 2 t r) rc := by
 have hs := St.start hV
 have hl := bodyC_len2 hB
 refine aT [_] Tryz.func147 Tryz.ntmps147 Tryz.results147 rfl rfl (dP (aJ (aX hs z_72 rfl (fun b2 w hb2 he2 hs => aH (aF (dP (dM rfl rfl (aH (bQ (dP (lp (cC Tryz.underlying287 zo_287 rfl (by decide)) rfl (dO rfl rfl rfl (dO rfl rfl rfl (aH ?_))))))))))))))
 refine aY rfl rfl (dP (lp (po_ta_yes Tryz.underlying288 rfl) rfl (dO rfl rfl rfl (dO rfl rfl rfl (aH (cO rfl rfl (dP (dN rfl rfl (aH (dP (dM rfl rfl (lp (aN rfl) rfl (lp (aO rfl (aP k_134 (hs.cell hb) hl)) rfl ?_)))))))))))))
 refine aZ ok_71 rfl rfl (c_fromNS hs.isIn hB hsm) rfl (fun v30 w HF => ?_)
 obtain ⟨V', rc, rfl, hc, hR⟩ := HF
 replace hs := hs.frame hc
 refine aJ (dR 0 hs bT rfl rfl rfl hR.flat.2 rfl hR.flat.1 rfl (fun w hs => aH (aV ⟨_, res1 ⟨_, rfl, aP bT (hs.g 0 rfl) hR.flat.2⟩, ?_⟩)))
 exact ⟨V', _, rfl, hs.drop hb2, hR⟩
theorem c_fromBody3 (hV : V.In w0) (hb : V b = some (.cells cs.toArray E (0, 0))) (hB : BodyC V 3 t r cs) (hsm : Small r) :
  CallsV Tryz.prog 147 #[.iface 289 (.pointer (some ⟨b, 0, none⟩))] w0 fun v w' => ∃ (V' : Vw) (rc : List Value), v = .agg rc.toArray ∧ St ⟨w0, V, V'⟩ w' [] ∧ RRec V' (only 3 t r) rc := by
 have hs := St.start hV
 have hl := bodyC_len3 hB
 refine aT [_] Tryz.func147 Tryz.ntmps147 Tryz.results147 rfl rfl (dP (aJ (aX hs z_72 rfl (fun b2 w hb2 he2 hs => aH (aF (dP (dM rfl rfl (aH (bQ (dP (lp (cC Tryz.underlying287 zo_287 rfl (by decide)) rfl (dO rfl rfl rfl (dO rfl rfl rfl (aH ?_))))))))))))))
 refine aY rfl rfl (dP (lp (cC Tryz.underlying288 zo_288 rfl (by decide)) rfl (dO rfl rfl rfl (dO rfl rfl rfl (aH (aY rfl rfl (dP (lp (po_ta_yes Tryz.underlying289 rfl) rfl (dO rfl rfl rfl (dO rfl rfl rfl (aH (cO rfl rfl (dP ?_)))))))))))))
 refine dN rfl rfl (aH (dP (dM rfl rfl (lp (aN rfl) rfl (lp (aO rfl (aP k_139 (hs.cell hb) hl)) rfl (aZ ok_73 rfl rfl (c_fromCNAME hs.isIn hB hsm) rfl (fun v37 w HF => ?_)))))))
 obtain ⟨V', rc, rfl, hc, hR⟩ := HF
 replace hs := hs.frame hc
 refine aJ (dR 0 hs bT rfl rfl rfl hR.flat.2 rfl hR.flat.1 rfl (fun w hs => aH (aV ⟨_, res1 ⟨_, rfl, aP bT (hs.g 0 rfl) hR.flat.2⟩, ?_⟩)))
 exact ⟨V', _, rfl, hs.drop hb2, hR⟩
theorem c_fromBody4 (hV : V.In w0) (hb : V b = some (.cells cs.toArray E (0, 0))) (hB : BodyC V 4 t r cs) (hsm : Small r) :
  CallsV Tryz.prog 147 #[.iface 290 (.pointer (some ⟨b, 0, none⟩))] w0 fun v w' => ∃ (V' : Vw) (rc : List Value), v = .agg rc.toArray ∧ St ⟨w0, V, V'⟩ w' [] ∧ RRec V' (only 4 t r) rc := by
 have hs := St.start hV
 have hl := bodyC_len4 hB
 refine aT [_] Tryz.func147 Tryz.ntmps147 Tryz.results147 rfl rfl (dP (aJ (aX hs z_72 rfl (fun b2 w hb2 he2 hs => aH (aF (dP (dM rfl rfl (aH (bQ (dP (lp (cC Tryz.underlying287 zo_287 rfl (by decide)) rfl (dO rfl rfl rfl (dO rfl rfl rfl (aH ?_))))))))))))))
 refine aY rfl rfl (dP (lp (cC Tryz.underlying288 zo_288 rfl (by decide)) rfl (dO rfl rfl rfl (dO rfl rfl rfl (aH (aY rfl rfl (dP (lp (cC Tryz.underlying289 zo_289 rfl (by decide)) rfl (dO rfl rfl rfl (dO rfl rfl rfl (aH (aY rfl rfl (dP ?_)))))))))))))
 refine lp (po_ta_yes Tryz.underlying290 rfl) rfl (dO rfl rfl rfl (dO rfl rfl rfl (aH (cO rfl rfl (dP (dN rfl rfl (aH (dP (dM rfl rfl (lp (aN rfl) rfl (lp (aO rfl (aP k_144 (hs.cell hb) hl)) rfl (aZ ok_75 rfl rfl (c_fromSOA hs.isIn hB hsm) rfl (fun v44 w HF => ?_)))))))))))))
 obtain ⟨V', rc, rfl, hc, hR⟩ := HF
 replace hs := hs.frame hc
 refine aJ (dR 0 hs bT rfl rfl rfl hR.flat.2 rfl hR.flat.1 rfl (fun w hs => aH (aV ⟨_, res1 ⟨_, rfl, aP bT (hs.g 0 rfl) hR.flat.2⟩, ?_⟩)))
 exact ⟨V', _, rfl, hs.drop hb2, hR⟩
theorem c_fromBody5 (hV : V.In w0) (hb : V b = some (.cells cs.toArray E (0, 0))) (hB : BodyC V 5 t r cs) (hsm : Small r) :
  CallsV Tryz.prog 147 #[.iface 291 (.pointer (some ⟨b, 0, none⟩))] w0 fun v w' => ∃ (V' : Vw) (rc : List Value), v = .agg rc.toArray ∧ St ⟨w0, V, V'⟩ w' [] ∧ RRec V' (only 5 t r) rc := by
 have hs := St.start hV
 have hl := bodyC_len5 hB
 refine aT [_] Tryz.func147 Tryz.ntmps147 Tryz.results147 rfl rfl (dP (aJ (aX hs z_72 rfl (fun b2 w hb2 he2 hs => aH (aF (dP (dM rfl rfl (aH (bQ (dP (lp (cC Tryz.underlying287 zo_287 rfl (by decide)) rfl (dO rfl rfl rfl (dO rfl rfl rfl (aH ?_))))))))))))))
 refine aY rfl rfl (dP (lp (cC Tryz.underlying288 zo_288 rfl (by decide)) rfl (dO rfl rfl rfl (dO rfl rfl rfl (aH (aY rfl rfl (dP (lp (cC Tryz.underlying289 zo_289 rfl (by decide)) rfl (dO rfl rfl rfl (dO rfl rfl rfl (aH (aY rfl rfl (dP ?_)))))))))))))
 refine lp (cC Tryz.underlying290 zo_290 rfl (by decide)) rfl (dO rfl rfl rfl (dO rfl rfl rfl (aH (aY rfl rfl (dP (lp (po_ta_yes Tryz.underlying291 rfl) rfl (dO rfl rfl rfl (dO rfl rfl rfl (aH (cO rfl rfl (dP (dN rfl rfl (aH ?_)))))))))))))
 refine dP (dM rfl rfl (lp (aN rfl) rfl (lp (aO rfl (aP k_149 (hs.cell hb) hl)) rfl (aZ ok_77 rfl rfl (c_fromPTR hs.isIn hB hsm) rfl (fun v51 w HF => ?_)))))
 obtain ⟨V', rc, rfl, hc, hR⟩ := HF
 replace hs := hs.frame hc
 refine aJ (dR 0 hs bT rfl rfl rfl hR.flat.2 rfl hR.flat.1 rfl (fun w hs => aH (aV ⟨_, res1 ⟨_, rfl, aP bT (hs.g 0 rfl) hR.flat.2⟩, ?_⟩)))
 exact ⟨V', _, rfl, hs.drop hb2, hR⟩
theorem c_fromBody6 (hV : V.In w0) (hb : V b = some (.cells cs.toArray E (0, 0))) (hB : BodyC V 6 t r cs) (hsm : Small r) :
  CallsV Tryz.prog 147 #[.iface 292 (.pointer (some ⟨b, 0, none⟩))] w0 fun v w' => ∃ (V' : Vw) (rc : List Value), v = .agg rc.toArray ∧ St ⟨w0, V, V'⟩ w' [] ∧ RRec V' (only 6 t r) rc := by
 have hs := St.start hV
 have hl := bodyC_len6 hB
 refine aT [_] Tryz.func147 Tryz.ntmps147 Tryz.results147 rfl rfl (dP (aJ (aX hs z_72 rfl (fun b2 w hb2 he2 hs => aH (aF (dP (dM rfl rfl (aH (bQ (dP (lp (cC Tryz.underlying287 zo_287 rfl (by decide)) rfl (dO rfl rfl rfl (dO rfl rfl rfl (aH ?_))))))))))))))
 refine aY rfl rfl (dP (lp (cC Tryz.underlying288 zo_288 rfl (by decide)) rfl (dO rfl rfl rfl (dO rfl rfl rfl (aH (aY rfl rfl (dP (lp (cC Tryz.underlying289 zo_289 rfl (by decide)) rfl (dO rfl rfl rfl (dO rfl rfl rfl (aH (aY rfl rfl (dP ?_)))))))))))))
 refine lp (cC Tryz.underlying290 zo_290 rfl (by decide)) rfl (dO rfl rfl rfl (dO rfl rfl rfl (aH (aY rfl rfl (dP (lp (cC Tryz.underlying291 zo_291 rfl (by decide)) rfl (dO rfl rfl rfl (dO rfl rfl rfl (aH (aY rfl rfl (dP (lp (po_ta_yes Tryz.underlying292 rfl) rfl (dO rfl rfl rfl ?_)))))))))))))
 refine dO rfl rfl rfl (aH (cO rfl rfl (dP (dN rfl rfl (aH (dP (dM rfl rfl (lp (aN rfl) rfl (lp (aO rfl (aP k_154 (hs.cell hb) hl)) rfl (aZ ok_79 rfl rfl (c_fromMX hs.isIn hB hsm) rfl (fun v58 w HF => ?_)))))))))))
 obtain ⟨V', rc, rfl, hc, hR⟩ := HF
 replace hs := hs.frame hc
 refine aJ (dR 0 hs bT rfl rfl rfl hR.flat.2 rfl hR.flat.1 rfl (fun w hs => aH (aV ⟨_, res1 ⟨_, rfl, aP bT (hs.g 0 rfl) hR.flat.2⟩, ?_⟩)))
 exact ⟨V', _, rfl, hs.drop hb2, hR⟩
theorem c_fromBody7 (hV : V.In w0) (hb : V b = some (.cells cs.toArray E (0, 0))) (hB : BodyC V 7 t r cs) (hsm : Small r) :
  CallsV Tryz.prog 147 #[.iface 293 (.pointer (some ⟨b, 0, none⟩))] w0 fun v w' => ∃ (V' : Vw) (rc : List Value), v = .agg rc.toArray ∧ St ⟨w0, V, V'⟩ w' [] ∧ RRec V' (only 7 t r) rc := by
 have hs := St.start hV
 have hl := bodyC_len7 hB
 refine aT [_] Tryz.func147 Tryz.ntmps147 Tryz.results147 rfl rfl (dP (aJ (aX hs z_72 rfl (fun b2 w hb2 he2 hs => aH (aF (dP (dM rfl rfl (aH (bQ (dP (lp (cC Tryz.underlying287 zo_287 rfl (by decide)) rfl (dO rfl rfl rfl (dO rfl rfl rfl (aH ?_))))))))))))))
 refine aY rfl rfl (dP (lp (cC Tryz.underlying288 zo_288 rfl (by decide)) rfl (dO rfl rfl rfl (dO rfl rfl rfl (aH (aY rfl rfl (dP (lp (cC Tryz.underlying289 zo_289 rfl (by decide)) rfl (dO rfl rfl rfl (dO rfl rfl rfl (aH (aY rfl rfl (dP ?_)))))))))))))
 refine lp (cC Tryz.underlying290 zo_290 rfl (by decide)) rfl (dO rfl rfl rfl (dO rfl rfl rfl (aH (aY rfl rfl (dP (lp (cC Tryz.underlying291 zo_291 rfl (by decide)) rfl (dO rfl rfl rfl (dO rfl rfl rfl (aH (aY rfl rfl (dP (lp (cC Tryz.underlying292 zo_292 rfl (by decide)) rfl (dO rfl rfl rfl ?_)))))))))))))
 refine dO rfl rfl rfl (aH (aY rfl rfl (dP (lp (po_ta_yes Tryz.underlying293 rfl) rfl (dO rfl rfl rfl (dO rfl rfl rfl (aH (cO rfl rfl (dP (dN rfl rfl (aH (dP (dM rfl rfl ?_)))))))))))))
 refine lp (aN rfl) rfl (lp (aO rfl (aP k_159 (hs.cell hb) hl)) rfl (aZ ok_81 rfl rfl (c_fromTXT hs.isIn hB hsm) rfl (fun v65 w HF => ?_)))
 obtain ⟨V', rc, rfl, hc, hR⟩ := HF
 replace hs := hs.frame hc
 refine aJ (dR 0 hs bT rfl rfl rfl hR.flat.2 rfl hR.flat.1 rfl (fun w hs => aH (aV ⟨_, res1 ⟨_, rfl, aP bT (hs.g 0 rfl) hR.flat.2⟩, ?_⟩)))
 exact ⟨V', _, rfl, hs.drop hb2, hR⟩
theorem c_fromBody8 (hV : V.In w0) (hb : V b = some (.cells cs.toArray E (0, 0))) (hB : BodyC V 8 t r cs) (hsm : Small r) :
  CallsV Tryz.prog 147 #[.iface 294 (.pointer (some ⟨b, 0, none⟩))] w0 fun v w' => ∃ (V' : Vw) (rc : List Value), v = .agg rc.toArray ∧ St ⟨w0, V, V'⟩ w' [] ∧ RRec V' (only 8 t r) rc := by
 have hs := St.start hV
 have hl := bodyC_len8 hB
 refine aT [_] Tryz.func147 Tryz.ntmps147 Tryz.results147 rfl rfl (dP (aJ (aX hs z_72 rfl (fun b2 w hb2 he2 hs => aH (aF (dP (dM rfl rfl (aH (bQ (dP (lp (cC Tryz.underlying287 zo_287 rfl (by decide)) rfl (dO rfl rfl rfl (dO rfl rfl rfl (aH ?_))))))))))))))
 refine aY rfl rfl (dP (lp (cC Tryz.underlying288 zo_288 rfl (by decide)) rfl (dO rfl rfl rfl (dO rfl rfl rfl (aH (aY rfl rfl (dP (lp (cC Tryz.underlying289 zo_289 rfl (by decide)) rfl (dO rfl rfl rfl (dO rfl rfl rfl (aH (aY rfl rfl (dP ?_)))))))))))))
 refine lp (cC Tryz.underlying290 zo_290 rfl (by decide)) rfl (dO rfl rfl rfl (dO rfl rfl rfl (aH (aY rfl rfl (dP (lp (cC Tryz.underlying291 zo_291 rfl (by decide)) rfl (dO rfl rfl rfl (dO rfl rfl rfl (aH (aY rfl rfl (dP (lp (cC Tryz.underlying292 zo_292 rfl (by decide)) rfl (dO rfl rfl rfl ?_)))))))))))))
 refine dO rfl rfl rfl (aH (aY rfl rfl (dP (lp (cC Tryz.underlying293 zo_293 rfl (by decide)) rfl (dO rfl rfl rfl (dO rfl rfl rfl (aH (aY rfl rfl (dP (lp (po_ta_yes Tryz.underlying294 rfl) rfl (dO rfl rfl rfl (dO rfl rfl rfl (aH ?_)))))))))))))
 refine cO rfl rfl (dP (dN rfl rfl (aH (dP (dM rfl rfl (lp (aN rfl) rfl (lp (aO rfl (aP k_165 (hs.cell hb) hl)) rfl (aZ ok_83 rfl rfl (c_fromAAAA hs.isIn hB hsm) rfl (fun v72 w HF => ?_)))))))))
 obtain ⟨V', rc, rfl, hc, hR⟩ := HF
 replace hs := hs.frame hc
 refine aJ (dR 0 hs bT rfl rfl rfl hR.flat.2 rfl hR.flat.1 rfl (fun w hs => aH (aV ⟨_, res1 ⟨_, rfl, aP bT (hs.g 0 rfl) hR.flat.2⟩, ?_⟩)))
 exact ⟨V', _, rfl, hs.drop hb2, hR⟩
theorem c_fromBody9 (hV : V.In w0) (hb : V b = some (.cells cs.toArray E (0, 0))) (hB : BodyC V 9 t r cs) (hsm : Small r) :
  CallsV Tryz.prog 147 #[.iface 295 (.pointer (some ⟨b, 0, none⟩))] w0 fun v w' => ∃ (V' : Vw) (rc : List Value), v = .agg rc.toArray ∧ St ⟨w0, V, V'⟩ w' [] ∧ RRec V' (only 9 t r) rc := by
 have hs := St.start hV
 have hl := bodyC_len9 hB
 refine aT [_] Tryz.func147 Tryz.ntmps147 Tryz.results147 rfl rfl (dP (aJ (aX hs z_72 rfl (fun b2 w hb2 he2 hs => aH (aF (dP (dM rfl rfl (aH (bQ (dP (lp (cC Tryz.underlying287 zo_287 rfl (by decide)) rfl (dO rfl rfl rfl (dO rfl rfl rfl (aH ?_))))))))))))))
 refine aY rfl rfl (dP (lp (cC Tryz.underlying288 zo_288 rfl (by decide)) rfl (dO rfl rfl rfl (dO rfl rfl rfl (aH (aY rfl rfl (dP (lp (cC Tryz.underlying289 zo_289 rfl (by decide)) rfl (dO rfl rfl rfl (dO rfl rfl rfl (aH (aY rfl rfl (dP ?_)))))))))))))
 refine lp (cC Tryz.underlying290 zo_290 rfl (by decide)) rfl (dO rfl rfl rfl (dO rfl rfl rfl (aH (aY rfl rfl (dP (lp (cC Tryz.underlying291 zo_291 rfl (by decide)) rfl (dO rfl rfl rfl (dO rfl rfl rfl (aH (aY rfl rfl (dP (lp (cC Tryz.underlying292 zo_292 rfl (by decide)) rfl (dO rfl rfl rfl ?_)))))))))))))
 refine dO rfl rfl rfl (aH (aY rfl rfl (dP (lp (cC Tryz.underlying293 zo_293 rfl (by decide)) rfl (dO rfl rfl rfl (dO rfl rfl rfl (aH (aY rfl rfl (dP (lp (cC Tryz.underlying294 zo_294 rfl (by decide)) rfl (dO rfl rfl rfl (dO rfl rfl rfl (aH ?_)))))))))))))
 refine aY rfl rfl (dP (lp (po_ta_yes Tryz.underlying295 rfl) rfl (dO rfl rfl rfl (dO rfl rfl rfl (aH (cO rfl rfl (dP (dN rfl rfl (aH (dP (dM rfl rfl (lp (aN rfl) rfl (lp (aO rfl (aP k_170 (hs.cell hb) hl)) rfl ?_)))))))))))))
 refine aZ ok_85 rfl rfl (c_fromSRV hs.isIn hB hsm) rfl (fun v79 w HF => ?_)
 obtain ⟨V', rc, rfl, hc, hR⟩ := HF
 replace hs := hs.frame hc
 refine aJ (dR 0 hs bT rfl rfl rfl hR.flat.2 rfl hR.flat.1 rfl (fun w hs => aH (aV ⟨_, res1 ⟨_, rfl, aP bT (hs.g 0 rfl) hR.flat.2⟩, ?_⟩)))
 exact ⟨V', _, rfl, hs.drop hb2, hR⟩
theorem c_fromBody10 (hV : V.In w0) (hb : V b = some (.cells cs.toArray E (0, 0))) (hB : BodyC V 10 t r cs) (hsm : Small r) :
  CallsV Tryz.prog 147 #[.iface 296 (.pointer (some ⟨b, 0, none⟩))] w0 fun v w' => ∃ (V' : Vw) (rc : List Value), v = .agg rc.toArray ∧ St ⟨w0, V, V'⟩ w' [] ∧ RRec V' (only 10 t r) rc := by
 have hs := St.start hV
 have hl := bodyC_len10 hB
 refine aT [_] Tryz.func147 Tryz.ntmps147 Tryz.results147 rfl rfl (dP (aJ (aX hs z_72 rfl (fun b2 w hb2 he2 hs => aH (aF (dP (dM rfl rfl (aH (bQ (dP (lp (cC Tryz.underlying287 zo_287 rfl (by decide)) rfl (dO rfl rfl rfl (dO rfl rfl rfl (aH ?_))))))))))))))
 refine aY rfl rfl (dP (lp (cC Tryz.underlying288 zo_288 rfl (by decide)) rfl (dO rfl rfl rfl (dO rfl rfl rfl (aH (aY rfl rfl (dP (lp (cC Tryz.underlying289 zo_289 rfl (by decide)) rfl (dO rfl rfl rfl (dO rfl rfl rfl (aH (aY rfl rfl (dP ?_)))))))))))))
 refine lp (cC Tryz.underlying290 zo_290 rfl (by decide)) rfl (dO rfl rfl rfl (dO rfl rfl rfl (aH (aY rfl rfl (dP (lp (cC Tryz.underlying291 zo_291 rfl (by decide)) rfl (dO rfl rfl rfl (dO rfl rfl rfl (aH (aY rfl rfl (dP (lp (cC Tryz.underlying292 zo_292 rfl (by decide)) rfl (dO rfl rfl rfl ?_)))))))))))))
 refine dO rfl rfl rfl (aH (aY rfl rfl (dP (lp (cC Tryz.underlying293 zo_293 rfl (by decide)) rfl (dO rfl rfl rfl (dO rfl rfl rfl (aH (aY rfl rfl (dP (lp (cC Tryz.underlying294 zo_294 rfl (by decide)) rfl (dO rfl rfl rfl (dO rfl rfl rfl (aH ?_)))))))))))))
 refine aY rfl rfl (dP (lp (cC Tryz.underlying295 zo_295 rfl (by decide)) rfl (dO rfl rfl rfl (dO rfl rfl rfl (aH (aY rfl rfl (dP (lp (po_ta_yes Tryz.underlying296 rfl) rfl (dO rfl rfl rfl (dO rfl rfl rfl (aH (cO rfl rfl (dP ?_)))))))))))))
 refine dN rfl rfl (aH (dP (dM rfl rfl (lp (aN rfl) rfl (lp (aO rfl (aP k_176 (hs.cell hb) hl)) rfl (aZ ok_87 rfl rfl (c_fromOPT hs.isIn hB hsm) rfl (fun v86 w HF => ?_)))))))
 obtain ⟨V', rc, rfl, hc, hR⟩ := HF
 replace hs := hs.frame hc
 refine aJ (dR 0 hs bT rfl rfl rfl hR.flat.2 rfl hR.flat.1 rfl (fun w hs => aH (aV ⟨_, res1 ⟨_, rfl, aP bT (hs.g 0 rfl) hR.flat.2⟩, ?_⟩)))
 exact ⟨V', _, rfl, hs.drop hb2, hR⟩
theorem c_fromBody11 (hV : V.In w0) (hb : V b = some (.cells cs.toArray E (0, 0))) (hB : BodyC V 11 t r cs) (hsm : Small r) :
  CallsV Tryz.prog 147 #[.iface 297 (.pointer (some ⟨b, 0, none⟩))] w0 fun v w' => ∃ (V' : Vw) (rc : List Value), v = .agg rc.toArray ∧ St ⟨w0, V, V'⟩ w' [] ∧ RRec V' (only 11 t r) rc := by
 have hs := St.start hV
 have hl := bodyC_len11 hB
 refine aT [_] Tryz.func147 Tryz.ntmps147 Tryz.results147 rfl rfl (dP (aJ (aX hs z_72 rfl (fun b2 w hb2 he2 hs => aH (aF (dP (dM rfl rfl (aH (bQ (dP (lp (cC Tryz.underlying287 zo_287 rfl (by decide)) rfl (dO rfl rfl rfl (dO rfl rfl rfl (aH ?_))))))))))))))
 refine aY rfl rfl (dP (lp (cC Tryz.underlying288 zo_288 rfl (by decide)) rfl (dO rfl rfl rfl (dO rfl rfl rfl (aH (aY rfl rfl (dP (lp (cC Tryz.underlying289 zo_289 rfl (by decide)) rfl (dO rfl rfl rfl (dO rfl rfl rfl (aH (aY rfl rfl (dP ?_)))))))))))))
 refine lp (cC Tryz.underlying290 zo_290 rfl (by decide)) rfl (dO rfl rfl rfl (dO rfl rfl rfl (aH (aY rfl rfl (dP (lp (cC Tryz.underlying291 zo_291 rfl (by decide)) rfl (dO rfl rfl rfl (dO rfl rfl rfl (aH (aY rfl rfl (dP (lp (cC Tryz.underlying292 zo_292 rfl (by decide)) rfl (dO rfl rfl rfl ?_)))))))))))))
 refine dO rfl rfl rfl (aH (aY rfl rfl (dP (lp (cC Tryz.underlying293 zo_293 rfl (by decide)) rfl (dO rfl rfl rfl (dO rfl rfl rfl (aH (aY rfl rfl (dP (lp (cC Tryz.underlying294 zo_294 rfl (by decide)) rfl (dO rfl rfl rfl (dO rfl rfl rfl (aH ?_)))))))))))))
 refine aY rfl rfl (dP (lp (cC Tryz.underlying295 zo_295 rfl (by decide)) rfl (dO rfl rfl rfl (dO rfl rfl rfl (aH (aY rfl rfl (dP (lp (cC Tryz.underlying296 zo_296 rfl (by decide)) rfl (dO rfl rfl rfl (dO rfl rfl rfl (aH (aY rfl rfl (dP ?_)))))))))))))
 refine lp (po_ta_yes Tryz.underlying297 rfl) rfl (dO rfl rfl rfl (dO rfl rfl rfl (aH (cO rfl rfl (dP (dN rfl rfl (aH (dP (dM rfl rfl (lp (aN rfl) rfl (lp (aO rfl (aP k_182 (hs.cell hb) hl)) rfl (aZ ok_89 rfl rfl (c_fromSVCB hs.isIn hB hsm) rfl (fun v93 w HF => ?_)))))))))))))
 obtain ⟨V', vp, rfl, hc, hRP⟩ := HF
 replace hs := hs.frame hc
 have hR : RRec V' (only 11 t r) (recC (only 11 t r) (.slice none 0 0) (.slice none 0 0) vp) := ⟨_, _, _, rfl, RB.nil V', RTexts.nil V', hRP⟩
 refine aJ (dR 0 hs bT rfl rfl rfl hR.flat.2 rfl hR.flat.1 rfl (fun w hs => aH (aV ⟨_, res1 ⟨_, rfl, aP bT (hs.g 0 rfl) hR.flat.2⟩, ?_⟩)))
 exact ⟨V', _, rfl, hs.drop hb2, hR⟩
theorem c_fromBody12 (hV : V.In w0) (hb : V b = some (.cells cs.toArray E (0, 0))) (hB : BodyC V 12 t r cs) (hsm : Small r) :
  CallsV Tryz.prog 147 #[.iface 298 (.pointer (some ⟨b, 0, none⟩))] w0 fun v w' => ∃ (V' : Vw) (rc : List Value), v = .agg rc.toArray ∧ St ⟨w0, V, V'⟩ w' [] ∧ RRec V' (only 12 t r) rc := by
 have hs := St.start hV
 have hl := bodyC_len12 hB
 refine aT [_] Tryz.func147 Tryz.ntmps147 Tryz.results147 rfl rfl (dP (aJ (aX hs z_72 rfl (fun b2 w hb2 he2 hs => aH (aF (dP (dM rfl rfl (aH (bQ (dP (lp (cC Tryz.underlying287 zo_287 rfl (by decide)) rfl (dO rfl rfl rfl (dO rfl rfl rfl (aH ?_))))))))))))))
 refine aY rfl rfl (dP (lp (cC Tryz.underlying288 zo_288 rfl (by decide)) rfl (dO rfl rfl rfl (dO rfl rfl rfl (aH (aY rfl rfl (dP (lp (cC Tryz.underlying289 zo_289 rfl (by decide)) rfl (dO rfl rfl rfl (dO rfl rfl rfl (aH (aY rfl rfl (dP ?_)))))))))))))
 refine lp (cC Tryz.underlying290 zo_290 rfl (by decide)) rfl (dO rfl rfl rfl (dO rfl rfl rfl (aH (aY rfl rfl (dP (lp (cC Tryz.underlying291 zo_291 rfl (by decide)) rfl (dO rfl rfl rfl (dO rfl rfl rfl (aH (aY rfl rfl (dP (lp (cC Tryz.underlying292 zo_292 rfl (by decide)) rfl (dO rfl rfl rfl ?_)))))))))))))
 refine dO rfl rfl rfl (aH (aY rfl rfl (dP (lp (cC Tryz.underlying293 zo_293 rfl (by decide)) rfl (dO rfl rfl rfl (dO rfl rfl rfl (aH (aY rfl rfl (dP (lp (cC Tryz.underlying294 zo_294 rfl (by decide)) rfl (dO rfl rfl rfl (dO rfl rfl rfl (aH ?_)))))))))))))
 refine aY rfl rfl (dP (lp (cC Tryz.underlying295 zo_295 rfl (by decide)) rfl (dO rfl rfl rfl (dO rfl rfl rfl (aH (aY rfl rfl (dP (lp (cC Tryz.underlying296 zo_296 rfl (by decide)) rfl (dO rfl rfl rfl (dO rfl rfl rfl (aH (aY rfl rfl (dP ?_)))))))))))))
 refine lp (cC Tryz.underlying297 zo_297 rfl (by decide)) rfl (dO rfl rfl rfl (dO rfl rfl rfl (aH (aY rfl rfl (dP (lp (po_ta_yes Tryz.underlying298 rfl) rfl (dO rfl rfl rfl (dO rfl rfl rfl (aH (cO rfl rfl (dP (dN rfl rfl (aH ?_)))))))))))))
 refine dP (dM rfl rfl (lp (aN rfl) rfl (lp (aO rfl (aP k_187 (hs.cell hb) hl)) rfl (aZ ok_91 rfl rfl (c_fromHTTPS hs.isIn hB hsm) rfl (fun v100 w HF => ?_)))))
 obtain ⟨V', rc, rfl, hc, hR⟩ := HF
 replace hs := hs.frame hc
 refine aJ (dR 0 hs bT rfl rfl rfl hR.flat.2 rfl hR.flat.1 rfl (fun w hs => aH (aV ⟨_, res1 ⟨_, rfl, aP bT (hs.g 0 rfl) hR.flat.2⟩, ?_⟩)))
 exact ⟨V', _, rfl, hs.drop hb2, hR⟩
theorem c_fromBody13 (hV : V.In w0) (hb : V b = some (.cells cs.toArray E (0, 0))) (hB : BodyC V 13 t r cs) (hsm : Small r) :
  CallsV Tryz.prog 147 #[.iface 299 (.pointer (some ⟨b, 0, none⟩))] w0 fun v w' => ∃ (V' : Vw) (rc : List Value), v = .agg rc.toArray ∧ St ⟨w0, V, V'⟩ w' [] ∧ RRec V' (only 13 t r) rc := by
 have hs := St.start hV
 have hl := bodyC_len13 hB
 refine aT [_] Tryz.func147 Tryz.ntmps147 Tryz.results147 rfl rfl (dP (aJ (aX hs z_72 rfl (fun b2 w hb2 he2 hs => aH (aF (dP (dM rfl rfl (aH (bQ (dP (lp (cC Tryz.underlying287 zo_287 rfl (by decide)) rfl (dO rfl rfl rfl (dO rfl rfl rfl (aH ?_))))))))))))))
 refine aY rfl rfl (dP (lp (cC Tryz.underlying288 zo_288 rfl (by decide)) rfl (dO rfl rfl rfl (dO rfl rfl rfl (aH (aY rfl rfl (dP (lp (cC Tryz.underlying289 zo_289 rfl (by decide)) rfl (dO rfl rfl rfl (dO rfl rfl rfl (aH (aY rfl rfl (dP ?_)))))))))))))
 refine lp (cC Tryz.underlying290 zo_290 rfl (by decide)) rfl (dO rfl rfl rfl (dO rfl rfl rfl (aH (aY rfl rfl (dP (lp (cC Tryz.underlying291 zo_291 rfl (by decide)) rfl (dO rfl rfl rfl (dO rfl rfl rfl (aH (aY rfl rfl (dP (lp (cC Tryz.underlying292 zo_292 rfl (by decide)) rfl (dO rfl rfl rfl ?_)))))))))))))
 refine dO rfl rfl rfl (aH (aY rfl rfl (dP (lp (cC Tryz.underlying293 zo_293 rfl (by decide)) rfl (dO rfl rfl rfl (dO rfl rfl rfl (aH (aY rfl rfl (dP (lp (cC Tryz.underlying294 zo_294 rfl (by decide)) rfl (dO rfl rfl rfl (dO rfl rfl rfl (aH ?_)))))))))))))
 refine aY rfl rfl (dP (lp (cC Tryz.underlying295 zo_295 rfl (by decide)) rfl (dO rfl rfl rfl (dO rfl rfl rfl (aH (aY rfl rfl (dP (lp (cC Tryz.underlying296 zo_296 rfl (by decide)) rfl (dO rfl rfl rfl (dO rfl rfl rfl (aH (aY rfl rfl (dP ?_)))))))))))))
 refine lp (cC Tryz.underlying297 zo_297 rfl (by decide)) rfl (dO rfl rfl rfl (dO rfl rfl rfl (aH (aY rfl rfl (dP (lp (cC Tryz.underlying298 zo_298 rfl (by decide)) rfl (dO rfl rfl rfl (dO rfl rfl rfl (aH (aY rfl rfl (dP (lp (po_ta_yes Tryz.underlying299 rfl) rfl (dO rfl rfl rfl ?_)))))))))))))
 refine dO rfl rfl rfl (aH (cO rfl rfl (dP (dN rfl rfl (aH (dP (dM rfl rfl (lp (aN rfl) rfl (lp (aO rfl (aP k_192 (hs.cell hb) hl)) rfl (aZ ok_93 rfl rfl (c_fromUnknown hs.isIn hB hsm) rfl (fun v107 w HF => ?_)))))))))))
 obtain ⟨V', rc, rfl, hc, hR⟩ := HF
 replace hs := hs.frame hc
 refine aJ (dR 0 hs bT rfl rfl rfl hR.flat.2 rfl hR.flat.1 rfl (fun w hs => aH (aV ⟨_, res1 ⟨_, rfl, aP bT (hs.g 0 rfl) hR.flat.2⟩, ?_⟩)))
 exact ⟨V', _, rfl, hs.drop hb2, hR⟩
theorem c_fromBody {bv : Value} (hV : V.In w0) (hB : RBody V t bv r) (hsm : Small r) :
  CallsV Tryz.prog 147 #[bv] w0 fun v w' => ∃ (V' : Vw) (rc : List Value), v = .agg rc.toArray ∧ St ⟨w0, V, V'⟩ w' [] ∧ RRec V' (only r.kind t r) rc := by
 obtain ⟨b, cs, E, rfl, hb, hBC, h1, h2⟩ := hB
 generalize hk : r.kind = kd at *
 have h0 : kd = 1 ∨ kd = 2 ∨ kd = 3 ∨ kd = 4 ∨ kd = 5 ∨ kd = 6 ∨ kd = 7 ∨ kd = 8 ∨ kd = 9 ∨ kd = 10 ∨ kd = 11 ∨ kd = 12 ∨ kd = 13 := by omega
 rcases h0 with rfl | rfl | rfl | rfl | rfl | rfl | rfl | rfl | rfl | rfl | rfl | rfl | rfl
 exact c_fromBody1 hV hb hBC hsm
 exact c_fromBody2 hV hb hBC hsm
 exact c_fromBody3 hV hb hBC hsm
 exact c_fromBody4 hV hb hBC hsm
 exact c_fromBody5 hV hb hBC hsm
 exact c_fromBody6 hV hb hBC hsm
 exact c_fromBody7 hV hb hBC hsm
 exact c_fromBody8 hV hb hBC hsm
 exact c_fromBody9 hV hb hBC hsm
 exact c_fromBody10 hV hb hBC hsm
 exact c_fromBody11 hV hb hBC hsm
 exact c_fromBody12 hV hb hBC hsm
 exact c_fromBody13 hV hb hBC hsm
theorem c_withHeader (hV : V.In w0) {rc : List Value} {x h : PRec} (hR : RRec V x rc) (hnm : h.name.length ≤ 254) :
  CallsV Tryz.prog 119 #[.agg rc.toArray, .agg (hdrC h).toArray] w0 fun v w' => ∃ rc', v = .agg rc'.toArray ∧ St ⟨w0, V, V⟩ w' [] ∧ RRec V (whole x h) rc' := by
 obtain ⟨vd, vt, vp, rfl, h1, h2, h3⟩ := hR
 have hs := St.start hV
 have hnl := cM (out := h.name) (n := h.name.length) (by omega)
 have hfl : Flat (recC (whole x h) vd vt vp) := (RRec.flat (V := V) (r := whole x h) ⟨vd, vt, vp, rfl, h1, h2, h3⟩).1
 refine aT [_, _] Tryz.func119 Tryz.ntmps119 Tryz.results119 rfl rfl (dP (aJ (cR hs rfl rfl rfl (fun b2 w hb2 hbe2 hs => aJ (cR hs rfl rfl rfl (fun b3 w hb3 hbe3 hs => aJ (aX hs z_72 rfl (fun b4 w hb4 he4 hs => aH (aF (e_draw (fun w2 => w2.heap[b3]? = some (.cells (hdrC h).toArray 113 (0, 0))) [1, 4, 6, 8, 10] mixed (fun w hw => ?_)))))))))))
 replace hs := hw.st hs
 refine dI 0 rfl (fun w => aR fo_113_0 rfl) rfl rfl (dJ 1 rfl (hs.g 1 rfl) rfl (fun w hf => (aO rfl (ld_hd (a := nmC h.name h.name.length) k_99 hf hnl))) rfl (dI 3 rfl (fun w => aR fo_113_1 rfl) rfl rfl (dJ 4 rfl (hs.g 1 rfl) rfl (fun w hf => (aO rfl (cT k_52 hf hnl (i := 0) rfl rfl))) rfl (dI 5 rfl (fun w => aR fo_113_2 rfl) rfl rfl (dJ 6 rfl (hs.g 1 rfl) rfl (fun w hf => (aO rfl (cT k_100 hf hnl (i := 1) rfl rfl))) rfl (dI 7 rfl (fun w => aR fo_113_3 rfl) rfl rfl (dJ 8 rfl (hs.g 1 rfl) rfl (fun w hf => (aO rfl (cT k_68 hf hnl (i := 2) rfl rfl))) rfl (dI 9 rfl (fun w => aR fo_113_4 rfl) rfl rfl (dJ 10 rfl (hs.g 1 rfl) rfl (fun w hf => (aO rfl (cT cB hf hnl (i := 3) rfl rfl))) rfl (dL 2 rfl (cF (cD rfl rfl ok_115 (c_textOf hs.isIn h.name hnm)) rfl (fun v7 w HF => ?_))))))))))))
 obtain ⟨rfl, hc⟩ := HF
 replace hs := hs.frame hc
 refine ⟨fun _ => hs.g 1 rfl, dI 11 rfl (fun w => aR fo_72_0 rfl) rfl rfl (dL 12 rfl (dQ 2 hs k_9 rfl rfl rfl rfl rfl rfl rfl (fun w hs => ⟨fun _ => hs.g 1 rfl, dI 13 rfl (fun w => aR fo_72_1 rfl) rfl rfl (dL 14 rfl (dQ 2 hs cB rfl rfl rfl rfl rfl rfl rfl (fun w hs => ⟨fun _ => hs.g 1 rfl, dI 15 rfl (fun w => aR fo_72_2 rfl) rfl rfl (dL 16 rfl (dQ 2 hs cB rfl rfl rfl rfl rfl rfl rfl (fun w hs => ⟨fun _ => hs.g 1 rfl, dI 17 rfl (fun w => aR fo_72_3 rfl) rfl rfl (dL 18 rfl (dQ 2 hs k_68 rfl rfl rfl rfl rfl rfl rfl (fun w hs => ⟨fun _ => hs.g 1 rfl, dI 19 rfl (fun w => aR fo_72_4 rfl) rfl rfl ?_⟩)))⟩)))⟩)))⟩)))⟩
 refine dL 20 rfl (dQ 2 hs cB rfl rfl rfl rfl rfl rfl rfl (fun w hs => ⟨fun h => absurd h (by decide +kernel), bS (by decide +kernel) (dP (lp (aO rfl (aP bT (hs.g 2 rfl) rfl)) rfl (aJ (dR 0 hs bT rfl rfl rfl rfl rfl hfl rfl (fun w hs => aH (aV ⟨_, res1 ⟨_, rfl, aP bT (hs.g 0 rfl) rfl⟩, ?_⟩))))))⟩))
 exact ⟨_, rfl, ((hs.drop hb4).drop hb3).drop hb2, vd, vt, vp, rfl, h1, h2, h3⟩
end
end Go.Proofs.YtmigokakpahgkaaGreatDoor

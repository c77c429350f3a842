/- Packing: bodies converted, with lists. Packing: a record's body converted. Packing: records converted. -/
import Derived.Test.YtgpfjlfkaoffeaaGreatDoorR22
set_option linter.all false
namespace Go.Proofs.YtgpfjlfkaoffeaaGreatDoor
open Go
section
variable {A : Nat → Addr} {V : Vw} {w0 : World} {r : fY} {vd vt vp : Value}
set_option maxHeartbeats 2000000 in
theorem p_optionsOf (hV : V.In w0) {pv : Value} {ps : List fU} (hP : eV V pv ps) (hn : ps.length ≤ 4294967296) (hd : ∀ p ∈ ps, p.data.length ≤ 4294967296) :
  eC Tryz.prog 185 #[pv] w0 fun v w' => ∃ V' : Vw, St ⟨w0, V, V'⟩ w' [] ∧ eV V' v ps := by
 obtain ⟨xs, hS, hR⟩ := hP
 obtain ⟨a, cap, rfl, hcap, ha⟩ := hS.form
 have hs := St.start hV
 refine aT [_] Tryz.func185 Tryz.ntmps185 Tryz.results185 rfl rfl (dP (dN rfl rfl (aH (dP (aJ (fP es_203 hs rfl (fun b6 w hb6 he6 hs => ?_)))))))
 have hsl : Sl 304 2 ⟨w0, V, V⟩ w [] (.slice (some ⟨b6, 0, none⟩) 0 0) 0 [] := Sl.empty hs hb6
 refine dN rfl rfl (aH (aF (dP (dM rfl rfl (lp (bC Tryz.underlying26 rfl) rfl (dM rfl rfl (aH (bQ (dC (fun g : Nat × List Value × Value × Vw => eH (eH (eH (eH emp 9 (.int .i64 g.1)) 8 (.int .i64 ps.length)) 7 (.slice a ps.length cap)) 3 g.2.2.1) (fun g w' => Sl 304 2 ⟨w0, V, g.2.2.2⟩ w' [] g.2.2.1 g.1 g.2.1 ∧ Rows 2 (RPair g.2.2.2) (ps.take g.1) g.2.1 ∧ g.1 ≤ ps.length) (fun g => ps.length - g.1) (0, [], .slice (some ⟨b6, 0, none⟩) 0 0, V) (aL rfl (aL rfl (aL rfl (aL rfl (bG _))))) ⟨hsl, rfl, Nat.zero_le _⟩ ?_)))))))))
 clear hsl hs
 rintro ⟨j, ys, sv, Vc⟩ w ⟨hsl, hrows, hj⟩
 simp only at hsl hrows hj ⊢
 have hle := hsl.st.view
 refine dP (lp (cY rfl rfl) rfl (aH (aF (bH rfl (fun hc0 => ?_) (fun hc0 => ?_)))))
 obtain ⟨b, p, rfl, hc⟩ := ha (by omega)
 have hjl : j < ps.length := by omega
 obtain ⟨c, ⟨vd, rfl, hRB⟩, hcl, hct⟩ := hR.at (List.getElem?_eq_getElem hjl)
 have hdl := hd _ (List.getElem_mem hjl)
 obtain ⟨X, hX, hs⟩ := hsl.open
 refine aW (aF (bQ (dP (lp (eZ j (p + j * 2) es_26 rfl rfl rfl hjl rfl) rfl ?_))))
 refine lp (aO rfl (ld_cells (l := [.int .u16 ps[j].key, vd]) k_25 rfl (fun i u hu => by
  rw [Nat.add_assoc]
  exact Vw.cell_in hs.isIn (Vw.cell_le hle (hc _ _ (fN hct hu)))))) rfl ?_
 refine aJ (aX hs z_25 rfl (fun b5 w hb5 he5 hs => aJ (dR 0 hs k_25 rfl rfl rfl rfl rfl (bX rfl (bX hRB.oneCell eQ)) rfl (fun w hs => aH (e_draw (fun w2 => w2.heap[b5]? = some (.cells [Value.int .u16 ps[j].key, vd].toArray 25 (0, 0))) [2, 5] mixed (fun w hw => ?_))))))
 replace hs := hw.st hs
 refine dI 0 rfl (fun w => aC rfl) rfl rfl (dI 1 rfl (fun w => aR fo_25_0 rfl) rfl rfl (dJ 2 rfl (hs.g 0 rfl) rfl (fun w hf => (aO rfl (aQ eS hf rfl))) rfl (dI 4 rfl (fun w => aR fo_25_1 rfl) rfl rfl (dJ 5 rfl (hs.g 0 rfl) rfl (fun w hf => (aO rfl (aQ k_23 hf rfl))) rfl (dL 3 rfl (fP es_23 hs rfl (fun b16 w hb16 he16 hs => ⟨fun _ => hs.g 1 rfl, dL 6 rfl (fA (k := ps[j].data.length) (news := ps[j].data.map eA) el_23 (.inr ⟨_, Tryz.underlying23⟩) (Sl.empty hs hb16) rfl rfl ((hRB.mono hle).src hs.isIn) (dH _) (by omega) (by omega) rfl (fun v19 w hs => ⟨fun _ => hs.st.get (k := 0) rfl, ?_⟩))⟩)))))))
 obtain ⟨V', hle', hsv, hs⟩ := hs.give
 have hRB' : RB V' v19 ps[j].data := by unfold RB; simpa using hsv
 refine dI 7 rfl (fun w => (bL rfl (by simp only [List.all_cons, List.all_nil, hRB'.oneCell]; rfl) (bu_304_0_1 _ _))) rfl rfl (dL 8 rfl (o_bslice (vls := [[.int .u16 ps[j].key, v19]]) el_203 hs rfl rfl rfl rfl (by simp) (by decide) (by decide) rfl (fun b21 w hb21 he21 hs => ⟨fun _ => hs.g 1 rfl, dL 9 rfl (fA (k := 1) (news := [.int .u16 ps[j].key, v19]) el_203 (.inr ⟨_, Tryz.underlying203⟩) (SlX.close (L := [_, _]) hX hs) rfl rfl (src_own (k := 0) hs rfl rfl) (bX rfl (bX hRB'.oneCell eQ)) (by omega) (by omega) rfl (fun v22 w hs => ⟨fun _ => hs.st.get (k := 1) rfl, ?_⟩))⟩)))
 replace hs := (hs.drop hb21).drop hb5
 refine dI 10 rfl (fun w => aD rfl) rfl rfl (bS (by decide +kernel) (aB (lp (bN rfl rfl (fV (c := j + 1) (by omega) (by omega))) rfl (dM rfl rfl (aH ?_)))))
 exact ⟨(j + 1, _, v22, V'), aL rfl (aL rfl (aL rfl (aL rfl (bG _)))), ⟨hs, by
  show Rows 2 (RPair V') (ps.take (j + 1)) _
  rw [List.take_succ, List.getElem?_eq_getElem hjl]
  exact Rows.snoc (hrows.mono fun _ _ h => h.mono hle') ⟨v19, rfl, hRB'⟩ rfl, by simp only; omega⟩, by simp only; omega⟩
 refine eT (aF ?_)
 have hjn : j = ps.length := by omega
 subst hjn
 rw [List.take_length] at hrows
 obtain ⟨V', hle', hsv, hs⟩ := hsl.give
 refine aB (dM rfl rfl (dN rfl rfl (aH (aV ⟨_, fW rfl, ?_⟩))))
 exact ⟨V', hs, _, hsv, hrows.mono fun _ _ h => h.mono hle'⟩
set_option maxHeartbeats 2000000 in
theorem p_paramsOf (hV : V.In w0) {pv : Value} {ps : List fU} (hP : eV V pv ps) (hn : ps.length ≤ 4294967296) (hd : ∀ p ∈ ps, p.data.length ≤ 4294967296) :
  eC Tryz.prog 186 #[pv] w0 fun v w' => ∃ V' : Vw, St ⟨w0, V, V'⟩ w' [] ∧ eV V' v ps := by
 obtain ⟨xs, hS, hR⟩ := hP
 obtain ⟨a, cap, rfl, hcap, ha⟩ := hS.form
 have hs := St.start hV
 refine aT [_] Tryz.func186 Tryz.ntmps186 Tryz.results186 rfl rfl (dP (dN rfl rfl (aH (dP (aJ (fP es_209 hs rfl (fun b6 w hb6 he6 hs => ?_)))))))
 have hsl : Sl 345 2 ⟨w0, V, V⟩ w [] (.slice (some ⟨b6, 0, none⟩) 0 0) 0 [] := Sl.empty hs hb6
 refine dN rfl rfl (aH (aF (dP (dM rfl rfl (lp (bC Tryz.underlying26 rfl) rfl (dM rfl rfl (aH (bQ (dC (fun g : Nat × List Value × Value × Vw => eH (eH (eH (eH emp 9 (.int .i64 g.1)) 8 (.int .i64 ps.length)) 7 (.slice a ps.length cap)) 3 g.2.2.1) (fun g w' => Sl 345 2 ⟨w0, V, g.2.2.2⟩ w' [] g.2.2.1 g.1 g.2.1 ∧ Rows 2 (RPair g.2.2.2) (ps.take g.1) g.2.1 ∧ g.1 ≤ ps.length) (fun g => ps.length - g.1) (0, [], .slice (some ⟨b6, 0, none⟩) 0 0, V) (aL rfl (aL rfl (aL rfl (aL rfl (bG _))))) ⟨hsl, rfl, Nat.zero_le _⟩ ?_)))))))))
 clear hsl hs
 rintro ⟨j, ys, sv, Vc⟩ w ⟨hsl, hrows, hj⟩
 simp only at hsl hrows hj ⊢
 have hle := hsl.st.view
 refine dP (lp (cY rfl rfl) rfl (aH (aF (bH rfl (fun hc0 => ?_) (fun hc0 => ?_)))))
 obtain ⟨b, p, rfl, hc⟩ := ha (by omega)
 have hjl : j < ps.length := by omega
 obtain ⟨c, ⟨vd, rfl, hRB⟩, hcl, hct⟩ := hR.at (List.getElem?_eq_getElem hjl)
 have hdl := hd _ (List.getElem_mem hjl)
 obtain ⟨X, hX, hs⟩ := hsl.open
 refine aW (aF (bQ (dP (lp (eZ j (p + j * 2) es_26 rfl rfl rfl hjl rfl) rfl ?_))))
 refine lp (aO rfl (ld_cells (l := [.int .u16 ps[j].key, vd]) k_25 rfl (fun i u hu => by
  rw [Nat.add_assoc]
  exact Vw.cell_in hs.isIn (Vw.cell_le hle (hc _ _ (fN hct hu)))))) rfl ?_
 refine aJ (aX hs z_25 rfl (fun b5 w hb5 he5 hs => aJ (dR 0 hs k_25 rfl rfl rfl rfl rfl (bX rfl (bX hRB.oneCell eQ)) rfl (fun w hs => aH (e_draw (fun w2 => w2.heap[b5]? = some (.cells [Value.int .u16 ps[j].key, vd].toArray 25 (0, 0))) [2, 5] mixed (fun w hw => ?_))))))
 replace hs := hw.st hs
 refine dI 0 rfl (fun w => aC rfl) rfl rfl (dI 1 rfl (fun w => aR fo_25_0 rfl) rfl rfl (dJ 2 rfl (hs.g 0 rfl) rfl (fun w hf => (aO rfl (aQ eS hf rfl))) rfl (dI 4 rfl (fun w => aR fo_25_1 rfl) rfl rfl (dJ 5 rfl (hs.g 0 rfl) rfl (fun w hf => (aO rfl (aQ k_23 hf rfl))) rfl (dL 3 rfl (fP es_23 hs rfl (fun b16 w hb16 he16 hs => ⟨fun _ => hs.g 1 rfl, dL 6 rfl (fA (k := ps[j].data.length) (news := ps[j].data.map eA) el_23 (.inr ⟨_, Tryz.underlying23⟩) (Sl.empty hs hb16) rfl rfl ((hRB.mono hle).src hs.isIn) (dH _) (by omega) (by omega) rfl (fun v19 w hs => ⟨fun _ => hs.st.get (k := 0) rfl, ?_⟩))⟩)))))))
 obtain ⟨V', hle', hsv, hs⟩ := hs.give
 have hRB' : RB V' v19 ps[j].data := by unfold RB; simpa using hsv
 refine dI 7 rfl (fun w => (bL rfl (by simp only [List.all_cons, List.all_nil, hRB'.oneCell]; rfl) (bu_345_0_1 _ _))) rfl rfl (dL 8 rfl (o_bslice (vls := [[.int .u16 ps[j].key, v19]]) el_209 hs rfl rfl rfl rfl (by simp) (by decide) (by decide) rfl (fun b21 w hb21 he21 hs => ⟨fun _ => hs.g 1 rfl, dL 9 rfl (fA (k := 1) (news := [.int .u16 ps[j].key, v19]) el_209 (.inr ⟨_, Tryz.underlying209⟩) (SlX.close (L := [_, _]) hX hs) rfl rfl (src_own (k := 0) hs rfl rfl) (bX rfl (bX hRB'.oneCell eQ)) (by omega) (by omega) rfl (fun v22 w hs => ⟨fun _ => hs.st.get (k := 1) rfl, ?_⟩))⟩)))
 replace hs := (hs.drop hb21).drop hb5
 refine dI 10 rfl (fun w => aD rfl) rfl rfl (bS (by decide +kernel) (aB (lp (bN rfl rfl (fV (c := j + 1) (by omega) (by omega))) rfl (dM rfl rfl (aH ?_)))))
 exact ⟨(j + 1, _, v22, V'), aL rfl (aL rfl (aL rfl (aL rfl (bG _)))), ⟨hs, by
  show Rows 2 (RPair V') (ps.take (j + 1)) _
  rw [List.take_succ, List.getElem?_eq_getElem hjl]
  exact Rows.snoc (hrows.mono fun _ _ h => h.mono hle') ⟨v19, rfl, hRB'⟩ rfl, by simp only; omega⟩, by simp only; omega⟩
 refine eT (aF ?_)
 have hjn : j = ps.length := by omega
 subst hjn
 rw [List.take_length] at hrows
 obtain ⟨V', hle', hsv, hs⟩ := hsl.give
 refine aB (dM rfl rfl (dN rfl rfl (aH (aV ⟨_, fW rfl, ?_⟩))))
 exact ⟨V', hs, _, hsv, hrows.mono fun _ _ h => h.mono hle'⟩
set_option maxHeartbeats 1000000 in
theorem p_unknownOf (hV : V.In w0) (hD : RB V vd r.data) (hdl : r.data.length ≤ 4294967296) : eC Tryz.prog 142 #[.agg (eY r vd vt vp).toArray] w0 fun v w' => ∃ (V' : Vw) (dv : Value), v = .agg [.int .u16 r.type, dv].toArray ∧ St ⟨w0, V, V'⟩ w' [] ∧ RB V' dv r.data := by
 have hs := St.start hV
 refine aT [_] Tryz.func142 Tryz.ntmps142 Tryz.results142 rfl rfl (dP (aJ (cR hs rfl rfl rfl (fun b1 w hb1 hbe1 hs => aJ (aX hs z_221 rfl (fun b2 w hb2 he2 hs => aH (aF (e_draw (fun w2 => w2.heap[b1]? = some (.cells (eY r vd vt vp).toArray 30 (0, 0))) [1, 4] mixed (fun w hw => ?_)))))))))
 replace hs := hw.st hs
 refine dI 0 rfl (fun w => aR fo_30_1 rfl) rfl rfl (dJ 1 rfl (hs.g 1 rfl) rfl (fun w hf => (aO rfl (aQ eS hf rfl))) rfl (dI 3 rfl (fun w => aR fo_30_6 rfl) rfl rfl (dJ 4 rfl (hs.g 1 rfl) rfl (fun w hf => (aO rfl (aQ k_23 hf rfl))) rfl (dL 2 rfl (fP es_23 hs rfl (fun b5 w hb5 he5 hs => ⟨fun _ => hs.g 2 rfl, dL 5 rfl (fA (k := r.data.length) (news := r.data.map eA) el_23 (.inr ⟨_, Tryz.underlying23⟩) (Sl.empty hs hb5) rfl rfl (hD.src hs.isIn) (dH _) (by omega) (by omega) rfl (fun v8 w hs => ⟨fun _ => hs.st.get (k := 1) rfl, ?_⟩))⟩))))))
 obtain ⟨V', hle', hsv, hs⟩ := hs.give
 have hRB' : RB V' v8 r.data := by unfold RB; simpa using hsv
 refine dI 6 rfl (fun w => (bL rfl (by simp only [List.all_cons, List.all_nil, hRB'.oneCell]; rfl) (bu_221_0_1 _ _))) rfl rfl (dL 7 rfl (dR 0 hs k_221 rfl rfl rfl rfl rfl (bX rfl (bX hRB'.oneCell eQ)) rfl (fun w hs => ⟨fun h => absurd h (by decide +kernel), bS (by decide +kernel) (aV ⟨_, fW ⟨_, rfl, aP k_221 (hs.g 0 rfl) rfl⟩, ?_⟩)⟩)))
 exact ⟨V', _, rfl, (hs.drop hb2).drop hb1, hRB'⟩
set_option maxHeartbeats 1000000 in
theorem p_txtOf (hV : V.In w0) (hT : fF V vt r.texts) (htl : r.texts.length ≤ 4294967296) : eC Tryz.prog 136 #[.agg (eY r vd vt vp).toArray] w0 fun v w' => ∃ (V' : Vw) (tv : Value), v = .agg [tv].toArray ∧ St ⟨w0, V, V'⟩ w' [] ∧ fF V' tv r.texts := by
 have hs := St.start hV
 refine aT [_] Tryz.func136 Tryz.ntmps136 Tryz.results136 rfl rfl (dP (aJ (cR hs rfl rfl rfl (fun b1 w hb1 hbe1 hs => aJ (aX hs z_188 rfl (fun b2 w hb2 he2 hs => aH (dP (aJ (fP es_28 hs rfl (fun b3 w hb3 he3 hs => lp (aR fo_30_14 rfl) rfl (lp (aO rfl (aQ k_28 (hs.g 2 rfl) rfl)) rfl (aJ (fA (k := r.texts.length) (news := r.texts.map fR) el_28 (.inr ⟨_, Tryz.underlying28⟩) (Sl.empty hs hb3) rfl rfl (SlV.src hT hs.isIn) (fun u hu => by obtain ⟨x, _, rfl⟩ := List.mem_map.1 hu; rfl) (by omega) (by omega) rfl (fun v6 w hs => ?_))))))))))))))
 obtain ⟨V', hle, hsv, hs⟩ := hs.give
 have hRT : fF V' v6 r.texts := by unfold fF; simpa using hsv
 refine lp (bL rfl (by simp only [List.all_cons, List.all_nil, hRT.oneCell]; rfl) (bu_188_0 _)) rfl (aJ (dR 0 hs k_188 rfl rfl rfl rfl rfl (bX hRT.oneCell eQ) rfl (fun w hs => aH (aV ⟨_, fW ⟨_, rfl, aP k_188 (hs.g 0 rfl) rfl⟩, ?_⟩))))
 exact ⟨V', _, rfl, (hs.drop hb2).drop hb1, hRT⟩
set_option maxHeartbeats 1000000 in
theorem p_optOf (hV : V.In w0) (hP : eV V vp r.pairs) (hpl : r.pairs.length ≤ 4294967296) (hpd : ∀ p ∈ r.pairs, p.data.length ≤ 4294967296) : eC Tryz.prog 139 #[.agg (eY r vd vt vp).toArray] w0 fun v w' => ∃ (V' : Vw) (pv : Value), v = .agg [pv].toArray ∧ St ⟨w0, V, V'⟩ w' [] ∧ eV V' pv r.pairs := by
 have hs := St.start hV
 refine aT [_] Tryz.func139 Tryz.ntmps139 Tryz.results139 rfl rfl (dP (aJ (cR hs rfl rfl rfl (fun b1 w hb1 hbe1 hs => aJ (aX hs z_205 rfl (fun b2 w hb2 he2 hs => aH (dP (lp (aR fo_30_15 rfl) rfl (lp (aO rfl (aQ k_26 (hs.g 1 rfl) rfl)) rfl (aZ ok_185 rfl rfl (p_optionsOf hs.isIn hP hpl hpd) rfl (fun v5 w HF => ?_)))))))))))
 obtain ⟨V', hc, hRP⟩ := HF
 replace hs := hs.frame hc
 refine lp (bL rfl (by simp only [List.all_cons, List.all_nil, hRP.oneCell]; rfl) (bu_205_0 _)) rfl (aJ (dR 0 hs k_205 rfl rfl rfl rfl rfl (bX hRP.oneCell eQ) rfl (fun w hs => aH (aV ⟨_, fW ⟨_, rfl, aP k_205 (hs.g 0 rfl) rfl⟩, ?_⟩))))
 exact ⟨V', _, rfl, (hs.drop hb2).drop hb1, hRP⟩
def svcC (r : fY) (pv : Value) : List Value := .int .u16 (r.n1 % 65536 : Nat) :: (nmC (eN r.host) (eN r.host).length ++ [pv])
set_option maxHeartbeats 1000000 in
theorem p_svcbOf (hV : V.In w0) (hsz : r.host.length ≤ 4294967296) (hP : eV V vp r.pairs) (hpl : r.pairs.length ≤ 4294967296) (hpd : ∀ p ∈ r.pairs, p.data.length ≤ 4294967296) : eC Tryz.prog 140 #[.agg (eY r vd vt vp).toArray] w0 fun v w' => ∃ (V' : Vw) (pv : Value), v = .agg (svcC r pv).toArray ∧ St ⟨w0, V, V'⟩ w' [] ∧ eV V' pv r.pairs := by
 have hn := cM (n := (eN r.host).length) (eL r.host)
 have hs := St.start hV
 refine aT [_] Tryz.func140 Tryz.ntmps140 Tryz.results140 rfl rfl (dP (aJ (cR hs rfl rfl rfl (fun b1 w hb1 hbe1 hs => aJ (aX hs z_211 rfl (fun b2 w hb2 he2 hs => aH (aF (e_draw (fun w2 => w2.heap[b1]? = some (.cells (eY r vd vt vp).toArray 30 (0, 0))) [1, 4, 7] mixed (fun w hw => ?_)))))))))
 replace hs := hw.st hs
 refine dI 0 rfl (fun w => aR fo_30_9 rfl) rfl rfl (dJ 1 rfl (hs.g 1 rfl) rfl (fun w hf => (aO rfl (aQ cB hf rfl))) rfl (dI 2 rfl (fun w => bY Tryz.underlying27 Tryz.underlying22 rfl u16mod) rfl rfl (dI 3 rfl (fun w => aR fo_30_7 rfl) rfl rfl (dJ 4 rfl (hs.g 1 rfl) rfl (fun w hf => (aO rfl (aQ k_9 hf rfl))) rfl (dI 6 rfl (fun w => aR fo_30_15 rfl) rfl rfl (dJ 7 rfl (hs.g 1 rfl) rfl (fun w hf => (aO rfl (aQ k_26 hf rfl))) rfl (dL 5 rfl (cF (cD rfl rfl ok_59 (c_nameOf hs.isIn r.host hsz)) rfl (fun v8 w HF => ?_)))))))))
 obtain ⟨rfl, hc⟩ := HF
 replace hs := hs.frame hc
 refine ⟨fun _ => hs.g 1 rfl, dL 8 rfl (cF (cD rfl rfl ok_186 (p_paramsOf hs.isIn hP hpl hpd)) rfl (fun v11 w HF => ?_))⟩
 obtain ⟨V', hc, hRP⟩ := HF
 replace hs := hs.frame hc
 refine ⟨fun _ => hs.g 1 rfl, dI 9 rfl (fun w => (fO [[.int .u16 (r.n1 % 65536 : Nat)], nmC (eN r.host) (eN r.host).length, [v11]] st_211 rfl rfl (by simp only [List.map_cons, List.map_nil, cells_one hRP.oneCell]; rfl) (by simp [hn]) (show _ = svcC r v11 by simp [svcC]))) rfl rfl (dL 10 rfl (dR 0 hs k_211 rfl rfl rfl (by simp [svcC, hn]) (by simp) (bX rfl (fD (eU _ _) (bX hRP.oneCell eQ))) rfl (fun w hs => ⟨fun h => absurd h (by decide +kernel), bS (by decide +kernel) (aV ⟨_, fW ⟨_, rfl, aP k_211 (hs.g 0 rfl) (by simp [svcC, hn])⟩, ?_⟩)⟩)))⟩
 exact ⟨V', _, rfl, (hs.drop hb2).drop hb1, hRP⟩
set_option maxHeartbeats 1000000 in
theorem p_httpsOf (hV : V.In w0) (hsz : r.host.length ≤ 4294967296) (hP : eV V vp r.pairs) (hpl : r.pairs.length ≤ 4294967296) (hpd : ∀ p ∈ r.pairs, p.data.length ≤ 4294967296) : eC Tryz.prog 141 #[.agg (eY r vd vt vp).toArray] w0 fun v w' => ∃ (V' : Vw) (pv : Value), v = .agg (svcC r pv).toArray ∧ St ⟨w0, V, V'⟩ w' [] ∧ eV V' pv r.pairs := by
 have hn := cM (n := (eN r.host).length) (eL r.host)
 have hs := St.start hV
 refine aT [_] Tryz.func141 Tryz.ntmps141 Tryz.results141 rfl rfl (dP (aJ (cR hs rfl rfl rfl (fun b1 w hb1 hbe1 hs => aJ (aX hs z_216 rfl (fun b2 w hb2 he2 hs => aH (dP (lp (aO rfl (aP eJ (hs.g 1 rfl) rfl)) rfl (aZ ok_140 rfl rfl (p_svcbOf hs.isIn hsz hP hpl hpd) rfl (fun v4 w HF => ?_))))))))))
 obtain ⟨V', pv, rfl, hc, hRP⟩ := HF
 replace hs := hs.frame hc
 refine lp (fO [svcC r pv] st_216 rfl rfl rfl (by simp [svcC, hn]) (show _ = svcC r pv by simp)) rfl (aJ (dR 0 hs k_216 rfl rfl rfl (by simp [svcC, hn]) (by simp) (bX rfl (fD (eU _ _) (bX hRP.oneCell eQ))) rfl (fun w hs => aH (aV ⟨_, fW ⟨_, rfl, aP k_216 (hs.g 0 rfl) (by simp [svcC, hn])⟩, ?_⟩))))
 exact ⟨V', _, rfl, (hs.drop hb2).drop hb1, hRP⟩
end
end Go.Proofs.YtgpfjlfkaoffeaaGreatDoor
namespace Go.Proofs.YtgpfjlfkaoffeaaGreatDoor
open Go
structure Mid (r : fY) : Prop where
 name : r.name.length ≤ 4294967296
 host : r.host.length ≤ 4294967296
 box : r.box.length ≤ 4294967296
 data : r.data.length ≤ 4294967296
 texts : r.texts.length ≤ 4294967296
 pairs : r.pairs.length ≤ 4294967296
 pair : ∀ p ∈ r.pairs, p.data.length ≤ 4294967296
theorem rowV_of {V : Vw} {b : Nat} {C : List Value} {E : TypeId} {fz : Nat × Nat} (h : V b = some (.cells C.toArray E fz)) : RowV V b C := fun j u hu => by
 unfold Vw.cell
 rw [h, Nat.zero_add]
 simpa using hu
section
variable {A : Nat → Addr} {V : Vw} {w0 : World} {r : fY} {vd vt vp : Value}
set_option maxHeartbeats 8000000 in
theorem p_bodyOf (hV : V.In w0) (hD : RB V vd r.data) (hT : fF V vt r.texts) (hP : eV V vp r.pairs) (hb : Mid r) (h1 : 1 ≤ r.kind) (h13 : r.kind ≤ 13) : eC Tryz.prog 61 #[.agg (eY r vd vt vp).toArray] w0 fun v w' => ∃ V' : Vw, St ⟨w0, V, V'⟩ w' [] ∧ PBody V' r v := by
 have hn := cM (n := (eN r.host).length) (eL r.host)
 have hnb := cM (n := (eN r.box).length) (eL r.box)
 have hs := St.start hV
 have hfl : Flat (eY r vd vt vp) := (show RRec V r (eY r vd vt vp) from ⟨vd, vt, vp, rfl, hD, hT, hP⟩).flat.1
 refine aT [_] Tryz.func61 Tryz.ntmps61 Tryz.results61 rfl rfl (dP (aJ (cR hs rfl rfl rfl (fun b1 w hb1 hbe1 hs => dN rfl rfl (aH (aF (dP (lp (aR fo_30_5 rfl) rfl (lp (aO rfl (aQ cH (hs.g 0 rfl) rfl)) rfl (aH (bQ (dP (lp (bI rfl rfl) rfl (dN rfl rfl ?_))))))))))))))
 refine aH (bH rfl (fun hc0 => ?_) (fun hc0 => ?_))
 have hk : r.kind = 1 := by omega
 refine dP (lp (aO rfl (aP eJ (hs.g 0 rfl) rfl)) rfl (aZ ok_130 rfl rfl (p_aOf hs.isIn hD) rfl (fun v21 w HF => ?_)))
 obtain ⟨rfl, hc⟩ := HF
 replace hs := hs.frame hc
 refine aJ (aX hs z_157 rfl (fun b3 w hb3 he3 hs => aJ (dR 0 hs k_157 rfl rfl rfl (by simp [padTo_len]) (by simp) (dH _) rfl (fun w hs => ?_))))
 obtain ⟨V1, hle1, hv1, hs⟩ := St.give hs hb3
 refine aH (dP (lp (cG Tryz.underlying248 (fun _ h => by cases h) rfl) rfl (dN rfl rfl (aH (aV ⟨_, fW rfl, ?_⟩)))))
 exact ⟨V1, hs.drop hb1, by unfold PBody; rw [hk]; exact ⟨b3, rfl, rowV_of hv1⟩⟩
 have hk1 : r.kind ≠ 1 := by omega
 refine dP (lp (bI rfl rfl) rfl (dN rfl rfl (aH (bH rfl (fun hc1 => ?_) (fun hc1 => ?_)))))
 have hk : r.kind = 2 := by omega
 refine dP (lp (aO rfl (aP eJ (hs.g 0 rfl) rfl)) rfl (aZ ok_131 rfl rfl (p_nsOf hs.isIn hb.host) rfl (fun v26 w HF => ?_)))
 obtain ⟨rfl, hc⟩ := HF
 replace hs := hs.frame hc
 refine aJ (aX hs z_163 rfl (fun b4 w hb4 he4 hs => aJ (dR 0 hs k_163 rfl rfl rfl hn (by simp) (eU _ _) rfl (fun w hs => ?_))))
 obtain ⟨V1, hle1, hv1, hs⟩ := St.give hs hb4
 refine aH (dP (lp (cG Tryz.underlying250 (fun _ h => by cases h) rfl) rfl (dN rfl rfl (aH (aV ⟨_, fW rfl, ?_⟩)))))
 exact ⟨V1, hs.drop hb1, by unfold PBody; rw [hk]; exact ⟨b4, rfl, rowV_of hv1⟩⟩
 have hk2 : r.kind ≠ 2 := by omega
 refine dP (lp (bI rfl rfl) rfl (dN rfl rfl (aH (bH rfl (fun hc2 => ?_) (fun hc2 => ?_)))))
 have hk : r.kind = 3 := by omega
 refine dP (lp (aO rfl (aP eJ (hs.g 0 rfl) rfl)) rfl (aZ ok_132 rfl rfl (p_cnameOf hs.isIn hb.host) rfl (fun v31 w HF => ?_)))
 obtain ⟨rfl, hc⟩ := HF
 replace hs := hs.frame hc
 refine aJ (aX hs z_168 rfl (fun b5 w hb5 he5 hs => aJ (dR 0 hs k_168 rfl rfl rfl hn (by simp) (eU _ _) rfl (fun w hs => ?_))))
 obtain ⟨V1, hle1, hv1, hs⟩ := St.give hs hb5
 refine aH (dP (lp (cG Tryz.underlying252 (fun _ h => by cases h) rfl) rfl (dN rfl rfl (aH (aV ⟨_, fW rfl, ?_⟩)))))
 exact ⟨V1, hs.drop hb1, by unfold PBody; rw [hk]; exact ⟨b5, rfl, rowV_of hv1⟩⟩
 have hk3 : r.kind ≠ 3 := by omega
 refine dP (lp (bI rfl rfl) rfl (dN rfl rfl (aH (bH rfl (fun hc3 => ?_) (fun hc3 => ?_)))))
 have hk : r.kind = 4 := by omega
 refine dP (lp (aO rfl (aP eJ (hs.g 0 rfl) rfl)) rfl (aZ ok_133 rfl rfl (p_soaOf hs.isIn hb.host hb.box) rfl (fun v36 w HF => ?_)))
 obtain ⟨rfl, hc⟩ := HF
 replace hs := hs.frame hc
 refine aJ (aX hs z_173 rfl (fun b6 w hb6 he6 hs => aJ (dR 0 hs k_173 rfl rfl rfl (by simp [hn, hnb]) (by simp) (fD (eU _ _) (fD (eU _ _) (aG rfl))) rfl (fun w hs => ?_))))
 obtain ⟨V1, hle1, hv1, hs⟩ := St.give hs hb6
 refine aH (dP (lp (cG Tryz.underlying254 (fun _ h => by cases h) rfl) rfl (dN rfl rfl (aH (aV ⟨_, fW rfl, ?_⟩)))))
 exact ⟨V1, hs.drop hb1, by unfold PBody; rw [hk]; exact ⟨b6, rfl, rowV_of hv1⟩⟩
 have hk4 : r.kind ≠ 4 := by omega
 refine dP (lp (bI rfl rfl) rfl (dN rfl rfl (aH (bH rfl (fun hc4 => ?_) (fun hc4 => ?_)))))
 have hk : r.kind = 5 := by omega
 refine dP (lp (aO rfl (aP eJ (hs.g 0 rfl) rfl)) rfl (aZ ok_134 rfl rfl (p_ptrOf hs.isIn hb.host) rfl (fun v41 w HF => ?_)))
 obtain ⟨rfl, hc⟩ := HF
 replace hs := hs.frame hc
 refine aJ (aX hs z_178 rfl (fun b7 w hb7 he7 hs => aJ (dR 0 hs k_178 rfl rfl rfl hn (by simp) (eU _ _) rfl (fun w hs => ?_))))
 obtain ⟨V1, hle1, hv1, hs⟩ := St.give hs hb7
 refine aH (dP (lp (cG Tryz.underlying256 (fun _ h => by cases h) rfl) rfl (dN rfl rfl (aH (aV ⟨_, fW rfl, ?_⟩)))))
 exact ⟨V1, hs.drop hb1, by unfold PBody; rw [hk]; exact ⟨b7, rfl, rowV_of hv1⟩⟩
 have hk5 : r.kind ≠ 5 := by omega
 refine dP (lp (bI rfl rfl) rfl (dN rfl rfl (aH (bH rfl (fun hc5 => ?_) (fun hc5 => ?_)))))
 have hk : r.kind = 6 := by omega
 refine dP (lp (aO rfl (aP eJ (hs.g 0 rfl) rfl)) rfl (aZ ok_135 rfl rfl (p_mxOf hs.isIn hb.host hb.box) rfl (fun v46 w HF => ?_)))
 obtain ⟨rfl, hc⟩ := HF
 replace hs := hs.frame hc
 refine aJ (aX hs z_183 rfl (fun b8 w hb8 he8 hs => aJ (dR 0 hs k_183 rfl rfl rfl (by simp [hn]) (by simp) (bX rfl (eU _ _)) rfl (fun w hs => ?_))))
 obtain ⟨V1, hle1, hv1, hs⟩ := St.give hs hb8
 refine aH (dP (lp (cG Tryz.underlying258 (fun _ h => by cases h) rfl) rfl (dN rfl rfl (aH (aV ⟨_, fW rfl, ?_⟩)))))
 exact ⟨V1, hs.drop hb1, by unfold PBody; rw [hk]; exact ⟨b8, rfl, rowV_of hv1⟩⟩
 have hk6 : r.kind ≠ 6 := by omega
 refine dP (lp (bI rfl rfl) rfl (dN rfl rfl (aH (bH rfl (fun hc6 => ?_) (fun hc6 => ?_)))))
 have hk : r.kind = 7 := by omega
 refine dP (lp (aO rfl (aP eJ (hs.g 0 rfl) rfl)) rfl (aZ ok_136 rfl rfl (p_txtOf hs.isIn hT hb.texts) rfl (fun v51 w HF => ?_)))
 obtain ⟨V2, tv, rfl, hc, hX⟩ := HF
 replace hs := hs.frame hc
 refine aJ (aX hs z_188 rfl (fun b9 w hb9 he9 hs => aJ (dR 0 hs k_188 rfl rfl rfl rfl (by simp) (bX hX.oneCell eQ) rfl (fun w hs => ?_))))
 obtain ⟨V1, hle1, hv1, hs⟩ := St.give hs hb9
 refine aH (dP (lp (cG Tryz.underlying260 (fun _ h => by cases h) rfl) rfl (dN rfl rfl (aH (aV ⟨_, fW rfl, ?_⟩)))))
 exact ⟨V1, hs.drop hb1, by unfold PBody; rw [hk]; exact ⟨b9, tv, rfl, rowV_of hv1, hX.mono hle1⟩⟩
 have hk7 : r.kind ≠ 7 := by omega
 refine dP (lp (bI rfl rfl) rfl (dN rfl rfl (aH (bH rfl (fun hc7 => ?_) (fun hc7 => ?_)))))
 have hk : r.kind = 8 := by omega
 refine dP (lp (aO rfl (aP eJ (hs.g 0 rfl) rfl)) rfl (aZ ok_137 rfl rfl (p_aaaaOf hs.isIn hD) rfl (fun v56 w HF => ?_)))
 obtain ⟨rfl, hc⟩ := HF
 replace hs := hs.frame hc
 refine aJ (aX hs z_194 rfl (fun b10 w hb10 he10 hs => aJ (dR 0 hs k_194 rfl rfl rfl (by simp [padTo_len]) (by simp) (dH _) rfl (fun w hs => ?_))))
 obtain ⟨V1, hle1, hv1, hs⟩ := St.give hs hb10
 refine aH (dP (lp (cG Tryz.underlying262 (fun _ h => by cases h) rfl) rfl (dN rfl rfl (aH (aV ⟨_, fW rfl, ?_⟩)))))
 exact ⟨V1, hs.drop hb1, by unfold PBody; rw [hk]; exact ⟨b10, rfl, rowV_of hv1⟩⟩
 have hk8 : r.kind ≠ 8 := by omega
 refine dP (lp (bI rfl rfl) rfl (dN rfl rfl (aH (bH rfl (fun hc8 => ?_) (fun hc8 => ?_)))))
 have hk : r.kind = 9 := by omega
 refine dP (lp (aO rfl (aP eJ (hs.g 0 rfl) rfl)) rfl (aZ ok_138 rfl rfl (p_srvOf hs.isIn hb.host hb.box) rfl (fun v61 w HF => ?_)))
 obtain ⟨rfl, hc⟩ := HF
 replace hs := hs.frame hc
 refine aJ (aX hs z_199 rfl (fun b11 w hb11 he11 hs => aJ (dR 0 hs k_199 rfl rfl rfl (by simp [hn]) (by simp) (bX rfl (bX rfl (bX rfl (eU _ _)))) rfl (fun w hs => ?_))))
 obtain ⟨V1, hle1, hv1, hs⟩ := St.give hs hb11
 refine aH (dP (lp (cG Tryz.underlying264 (fun _ h => by cases h) rfl) rfl (dN rfl rfl (aH (aV ⟨_, fW rfl, ?_⟩)))))
 exact ⟨V1, hs.drop hb1, by unfold PBody; rw [hk]; exact ⟨b11, rfl, rowV_of hv1⟩⟩
 have hk9 : r.kind ≠ 9 := by omega
 refine dP (lp (bI rfl rfl) rfl (dN rfl rfl (aH (bH rfl (fun hc9 => ?_) (fun hc9 => ?_)))))
 have hk : r.kind = 10 := by omega
 refine dP (lp (aO rfl (aP eJ (hs.g 0 rfl) rfl)) rfl (aZ ok_139 rfl rfl (p_optOf hs.isIn hP hb.pairs hb.pair) rfl (fun v66 w HF => ?_)))
 obtain ⟨V2, tv, rfl, hc, hX⟩ := HF
 replace hs := hs.frame hc
 refine aJ (aX hs z_205 rfl (fun b12 w hb12 he12 hs => aJ (dR 0 hs k_205 rfl rfl rfl rfl (by simp) (bX hX.oneCell eQ) rfl (fun w hs => ?_))))
 obtain ⟨V1, hle1, hv1, hs⟩ := St.give hs hb12
 refine aH (dP (lp (cG Tryz.underlying266 (fun _ h => by cases h) rfl) rfl (dN rfl rfl (aH (aV ⟨_, fW rfl, ?_⟩)))))
 exact ⟨V1, hs.drop hb1, by unfold PBody; rw [hk]; exact ⟨b12, tv, rfl, rowV_of hv1, hX.mono hle1⟩⟩
 have hk10 : r.kind ≠ 10 := by omega
 refine dP (lp (bI rfl rfl) rfl (dN rfl rfl (aH (bH rfl (fun hc10 => ?_) (fun hc10 => ?_)))))
 have hk : r.kind = 11 := by omega
 refine dP (lp (aO rfl (aP eJ (hs.g 0 rfl) rfl)) rfl (aZ ok_140 rfl rfl (p_svcbOf hs.isIn hb.host hP hb.pairs hb.pair) rfl (fun v71 w HF => ?_)))
 obtain ⟨V2, tv, rfl, hc, hX⟩ := HF
 replace hs := hs.frame hc
 refine aJ (aX hs z_211 rfl (fun b13 w hb13 he13 hs => aJ (dR 0 hs k_211 rfl rfl rfl (by simp [svcC, hn]) (by simp) (bX rfl (fD (eU _ _) (bX hX.oneCell eQ))) rfl (fun w hs => ?_))))
 obtain ⟨V1, hle1, hv1, hs⟩ := St.give hs hb13
 refine aH (dP (lp (cG Tryz.underlying268 (fun _ h => by cases h) rfl) rfl (dN rfl rfl (aH (aV ⟨_, fW rfl, ?_⟩)))))
 exact ⟨V1, hs.drop hb1, by unfold PBody; rw [hk]; exact ⟨b13, tv, rfl, rowV_of hv1, hX.mono hle1⟩⟩
 have hk11 : r.kind ≠ 11 := by omega
 refine dP (lp (bI rfl rfl) rfl (dN rfl rfl (aH (bH rfl (fun hc11 => ?_) (fun hc11 => ?_)))))
 have hk : r.kind = 12 := by omega
 refine dP (lp (aO rfl (aP eJ (hs.g 0 rfl) rfl)) rfl (aZ ok_141 rfl rfl (p_httpsOf hs.isIn hb.host hP hb.pairs hb.pair) rfl (fun v76 w HF => ?_)))
 obtain ⟨V2, tv, rfl, hc, hX⟩ := HF
 replace hs := hs.frame hc
 refine aJ (aX hs z_216 rfl (fun b14 w hb14 he14 hs => aJ (dR 0 hs k_216 rfl rfl rfl (by simp [svcC, hn]) (by simp) (bX rfl (fD (eU _ _) (bX hX.oneCell eQ))) rfl (fun w hs => ?_))))
 obtain ⟨V1, hle1, hv1, hs⟩ := St.give hs hb14
 refine aH (dP (lp (cG Tryz.underlying270 (fun _ h => by cases h) rfl) rfl (dN rfl rfl (aH (aV ⟨_, fW rfl, ?_⟩)))))
 exact ⟨V1, hs.drop hb1, by unfold PBody; rw [hk]; exact ⟨b14, tv, rfl, rowV_of hv1, hX.mono hle1⟩⟩
 have hk12 : r.kind ≠ 12 := by omega
 refine dP (lp (bI rfl rfl) rfl (dN rfl rfl (aH (bH rfl (fun hc12 => ?_) (fun hc12 => ?_)))))
 have hk : r.kind = 13 := by omega
 refine dP (lp (aO rfl (aP eJ (hs.g 0 rfl) rfl)) rfl (aZ ok_142 rfl rfl (p_unknownOf hs.isIn hD hb.data) rfl (fun v81 w HF => ?_)))
 obtain ⟨V2, tv, rfl, hc, hX⟩ := HF
 replace hs := hs.frame hc
 refine aJ (aX hs z_221 rfl (fun b15 w hb15 he15 hs => aJ (dR 0 hs k_221 rfl rfl rfl rfl (by simp) (bX rfl (bX hX.oneCell eQ)) rfl (fun w hs => ?_))))
 obtain ⟨V1, hle1, hv1, hs⟩ := St.give hs hb15
 refine aH (dP (lp (cG Tryz.underlying272 (fun _ h => by cases h) rfl) rfl (dN rfl rfl (aH (aV ⟨_, fW rfl, ?_⟩)))))
 exact ⟨V1, hs.drop hb1, by unfold PBody; rw [hk]; exact ⟨b15, tv, rfl, rowV_of hv1, hX.mono hle1⟩⟩
 omega
end
end Go.Proofs.YtgpfjlfkaoffeaaGreatDoor
namespace Go.Proofs.YtgpfjlfkaoffeaaGreatDoor
open Go
theorem RowV.mono {V V' : Vw} (hV : V.le V') {b : Nat} {C : List Value} (h : RowV V b C) : RowV V' b C := fun j u hu => Vw.cell_le hV (h j u hu)
theorem PBody.mono {V V' : Vw} (hV : V.le V') {r : fY} {v : Value} (h1 : 1 ≤ r.kind) (h13 : r.kind ≤ 13) (h : PBody V r v) : PBody V' r v := by
 have hcases : r.kind = 1 ∨ r.kind = 2 ∨ r.kind = 3 ∨ r.kind = 4 ∨ r.kind = 5 ∨ r.kind = 6 ∨ r.kind = 7 ∨ r.kind = 8 ∨ r.kind = 9 ∨ r.kind = 10 ∨ r.kind = 11 ∨ r.kind = 12 ∨ r.kind = 13 := by omega
 unfold PBody at h ⊢
 rcases hcases with hk | hk | hk | hk | hk | hk | hk | hk | hk | hk | hk | hk | hk <;> rw [hk] at h ⊢ <;> simp only at h ⊢ <;>
  first | (obtain ⟨b, rfl, hB⟩ := h; exact ⟨b, rfl, hB.mono hV⟩) | (obtain ⟨b, pv, rfl, hB, hX⟩ := h; exact ⟨b, pv, rfl, hB.mono hV, hX.mono hV⟩)
theorem PBody.oneCell {V : Vw} {r : fY} {v : Value} (h1 : 1 ≤ r.kind) (h13 : r.kind ≤ 13) (h : PBody V r v) : v.oneCell' = true := by
 have hcases : r.kind = 1 ∨ r.kind = 2 ∨ r.kind = 3 ∨ r.kind = 4 ∨ r.kind = 5 ∨ r.kind = 6 ∨ r.kind = 7 ∨ r.kind = 8 ∨ r.kind = 9 ∨ r.kind = 10 ∨ r.kind = 11 ∨ r.kind = 12 ∨ r.kind = 13 := by omega
 unfold PBody at h
 rcases hcases with hk | hk | hk | hk | hk | hk | hk | hk | hk | hk | hk | hk | hk <;> rw [hk] at h <;> simp only at h <;>
  first | (obtain ⟨b, rfl, hB⟩ := h; rfl) | (obtain ⟨b, pv, rfl, hB, hX⟩ := h; rfl)
theorem rows_mono_mem {α : Type} {size : Nat} {R R' : α → List Value → Prop} : ∀ {l2 : List α} {xs : List Value}, (∀ a c, a ∈ l2 → R a c → R' a c) → Rows size R l2 xs → Rows size R' l2 xs
 | [], _, _, h => h
 | _ :: _, _, hR, ⟨c, rest, h0, h1, h2, h3⟩ => ⟨c, rest, h0, h1, hR _ c (List.mem_cons_self ..) h2, rows_mono_mem (fun b d hb => hR b d (List.mem_cons_of_mem _ hb)) h3⟩
def ResR (V : Vw) (r : fY) (c : List Value) : Prop := ∃ bv, c = resC (eN r.name) r.type r.cls r.ttl r.length bv ∧ PBody V r bv
theorem resC_len {s : List UInt8} {ty cl ttl len : Nat} {bv : Value} (h : s.length ≤ 255) : (resC s ty cl ttl len bv).length = 261 := by
 have hn := cM (n := s.length) h
 simp [resC, rhdC, hn]
theorem resC_flat {s : List UInt8} {ty cl ttl len : Nat} {bv : Value} (h : bv.oneCell' = true) : Flat (resC s ty cl ttl len bv) := fD (fD (eU _ _) (aG rfl)) (bX h eQ)
theorem Sl.notNil {E : TypeId} {size n : Nat} {B : Base} {w : World} {L : List (Nat × Obj)} {v : Value} {xs : List Value} (h : Sl E size B w L v n xs) (hn : 0 < n) : v ≠ .slice none 0 0 := by
 rcases h.2 with ⟨_, h2, _⟩ | ⟨g, cap, sp, rfl, _⟩
 omega
 intro e; cases e
section
variable {A : Nat → Addr} {V : Vw} {w0 : World} {l : List fY} {lv : Value}
set_option maxHeartbeats 4000000 in
theorem p_resourcesOf (hV : V.In w0) (hL : RRecs V lv l) (hn : l.length ≤ 4294967296) (hm : ∀ r ∈ l, Mid r ∧ 1 ≤ r.kind ∧ r.kind ≤ 13) :
  eC Tryz.prog 33 #[lv] w0 fun v w' => ∃ (V' : Vw) (xs : List Value), v ≠ .slice none 0 0 ∧ Sl 116 261 ⟨w0, V, V'⟩ w' [] v l.length xs ∧ Rows 261 (ResR V') l xs := by
 obtain ⟨xs, hS, hR⟩ := hL
 obtain ⟨a, cap, rfl, hcap, ha⟩ := hS.form
 have hs := St.start hV
 refine aT [_] Tryz.func33 Tryz.ntmps33 Tryz.results33 rfl rfl (dP (dN rfl rfl (aH (dP (aJ (fP es_52 hs rfl (fun b6 w hb6 he6 hs => ?_)))))))
 have hsl : Sl 116 261 ⟨w0, V, V⟩ w [] (.slice (some ⟨b6, 0, none⟩) 0 0) 0 [] := Sl.empty hs hb6
 refine dN rfl rfl (aH (aF (dP (dM rfl rfl (lp (bC Tryz.underlying31 rfl) rfl (dM rfl rfl (aH (bQ (dC (fun g : Nat × List Value × Value × Vw => eH (eH (eH (eH emp 9 (.int .i64 g.1)) 8 (.int .i64 l.length)) 7 (.slice a l.length cap)) 3 g.2.2.1) (fun g w' => Sl 116 261 ⟨w0, V, g.2.2.2⟩ w' [] g.2.2.1 g.1 g.2.1 ∧ Rows 261 (ResR g.2.2.2) (l.take g.1) g.2.1 ∧ g.1 ≤ l.length ∧ g.2.2.1 ≠ .slice none 0 0) (fun g => l.length - g.1) (0, [], .slice (some ⟨b6, 0, none⟩) 0 0, V) (aL rfl (aL rfl (aL rfl (aL rfl (bG _))))) ⟨hsl, rfl, Nat.zero_le _, fun e => by cases e⟩ ?_)))))))))
 clear hsl hs
 rintro ⟨j, ys, sv, Vc⟩ w ⟨hsl, hrows, hj, hsv0⟩
 simp only at hsl hrows hj hsv0 ⊢
 have hle := hsl.st.view
 refine dP (lp (cY rfl rfl) rfl (aH (aF (bH rfl (fun hc0 => ?_) (fun hc0 => ?_)))))
 obtain ⟨b, p, rfl, hc⟩ := ha (by omega)
 have hjl : j < l.length := by omega
 obtain ⟨c, ⟨vd, vt, vp, rfl, hD, hT, hP⟩, hcl, hct⟩ := hR.at (List.getElem?_eq_getElem hjl)
 obtain ⟨hmid, hk1, hk13⟩ := hm _ (List.getElem_mem hjl)
 have hfl : Flat (eY l[j] vd vt vp) := (show RRec V l[j] (eY l[j] vd vt vp) from ⟨vd, vt, vp, rfl, hD, hT, hP⟩).flat.1
 obtain ⟨X, hX, hs⟩ := hsl.open
 refine aW (aF (bQ (dP (lp (eZ j (p + j * 16) es_31 rfl rfl rfl hjl rfl) rfl ?_))))
 refine lp (aO rfl (ld_cells (l := eY l[j] vd vt vp) eJ rfl (fun i u hu => by
  rw [Nat.add_assoc]
  exact Vw.cell_in hs.isIn (Vw.cell_le hle (hc _ _ (fN hct hu)))))) rfl ?_
 refine aJ (aX hs z_30 rfl (fun b5 w hb5 he5 hs => aJ (dR 0 hs eJ rfl rfl rfl rfl rfl hfl rfl (fun w hs => aH (e_draw (fun w2 => w2.heap[b5]? = some (.cells (eY l[j] vd vt vp).toArray 30 (0, 0))) [1, 3] mixed (fun w hw => ?_))))))
 replace hs := hw.st hs
 refine dI 0 rfl (fun w => aC rfl) rfl rfl (dJ 1 rfl (hs.g 0 rfl) rfl (fun w hf => (aO rfl (aP eJ hf rfl))) rfl (dJ 3 rfl (hs.g 0 rfl) rfl (fun w hf => (aO rfl (aP eJ hf rfl))) rfl (dL 2 rfl (cF (cD rfl rfl ok_60 (p_resourceHeaderOf hs.isIn hmid.name)) rfl (fun v15 w HF => ?_)))))
 obtain ⟨rfl, hc2⟩ := HF
 replace hs := hs.frame hc2
 refine ⟨fun _ => hs.g 0 rfl, dL 4 rfl (cF (cD rfl rfl ok_61 (p_bodyOf hs.isIn (hD.mono hle) (hT.mono hle) (hP.mono hle) hmid hk1 hk13)) rfl (fun v17 w HF => ?_))⟩
 obtain ⟨V', hc3, hPB⟩ := HF
 have hle' := hc3.view
 replace hs := hs.frame hc3
 have hbo := hPB.oneCell hk1 hk13
 refine ⟨fun _ => hs.g 0 rfl, dI 5 rfl (fun w => (fO [rhdC (eN l[j].name) l[j].type l[j].cls l[j].ttl l[j].length, [v17]] st_116 rfl rfl (by simp only [List.map_cons, List.map_nil, cells_one hbo]; rfl) (by simp [rhdC, cM (eL _)]) (show [rhdC (eN l[j].name) l[j].type l[j].cls l[j].ttl l[j].length, [v17]].flatten = resC (eN l[j].name) l[j].type l[j].cls l[j].ttl l[j].length v17 by simp [resC]))) rfl rfl (dL 6 rfl (o_bslice (vls := [resC (eN l[j].name) l[j].type l[j].cls l[j].ttl l[j].length v17]) el_52 hs rfl rfl rfl rfl (by intro q hq; simp at hq; subst hq; exact resC_len (eL _)) (by decide) (by decide) rfl (fun b19 w hb19 he19 hs => ?_)))⟩
 rw [show [resC (eN l[j].name) l[j].type l[j].cls l[j].ttl l[j].length v17].flatten = resC (eN l[j].name) l[j].type l[j].cls l[j].ttl l[j].length v17 by simp] at hs
 refine ⟨fun _ => hs.g 1 rfl, dL 7 rfl (fA (k := 1) (news := resC (eN l[j].name) l[j].type l[j].cls l[j].ttl l[j].length v17) el_52 (.inr ⟨_, Tryz.underlying52⟩) (SlX.close (L := [_, _]) hX hs) rfl rfl (src_own (k := 0) hs rfl (resC_len (eL _))) (resC_flat hbo) (by omega) (by omega) rfl (fun v20 w hs => ⟨fun _ => hs.st.get (k := 1) rfl, ?_⟩))⟩
 replace hs := (hs.drop hb19).drop hb5
 refine dI 8 rfl (fun w => aD rfl) rfl rfl (bS (by decide +kernel) (aB (lp (bN rfl rfl (fV (c := j + 1) (by omega) (by omega))) rfl (dM rfl rfl (aH ?_)))))
 exact ⟨(j + 1, _, v20, V'), aL rfl (aL rfl (aL rfl (aL rfl (bG _)))), ⟨hs, by
  show Rows 261 (ResR V') (l.take (j + 1)) _
  rw [List.take_add_one, List.getElem?_eq_getElem hjl]
  refine Rows.snoc ?_ ⟨v17, rfl, hPB⟩ (resC_len (eL _))
  have hk : ∀ r ∈ l.take j, 1 ≤ r.kind ∧ r.kind ≤ 13 := fun r hr => (hm r (List.mem_of_mem_take hr)).2
  exact rows_mono_mem (fun r c hr ⟨bv, h1, h2⟩ => ⟨bv, h1, h2.mono hle' (hk r hr).1 (hk r hr).2⟩) hrows, by simp only; omega, hs.notNil (by omega)⟩, by simp only; omega⟩
 refine eT (aF ?_)
 have hjn : j = l.length := by omega
 subst hjn
 rw [List.take_length] at hrows
 refine aB (dM rfl rfl (dN rfl rfl (aH (aV ⟨_, fW rfl, ?_⟩))))
 exact ⟨Vc, ys, hsv0, hsl, hrows⟩
end
end Go.Proofs.YtgpfjlfkaoffeaaGreatDoor

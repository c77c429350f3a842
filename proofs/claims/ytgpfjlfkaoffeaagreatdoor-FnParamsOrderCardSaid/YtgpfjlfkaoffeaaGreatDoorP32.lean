/- Questions and records turned over. What the thin package returns of a step. -/
import Derived.Test.YtgpfjlfkaoffeaaGreatDoorP31
set_option linter.all false
namespace Go.Proofs.YtgpfjlfkaoffeaaGreatDoor
open Go
section
variable {V : Vw} {w0 : World}
theorem c_askOf (hV : V.In w0) {a : PAsk} {qcs : List Value} (hQ : RQ a qcs) : CallsV Tryz.prog 46 #[.agg qcs.toArray] w0 fun v w' => v = .agg (askC a).toArray ∧ St ⟨w0, V, V⟩ w' [] := by
 obtain ⟨rfl, hn⟩ := hQ
 have hnl := cM (out := a.name) (n := a.name.length) (by omega)
 have hs := St.start hV
 refine aT [_] Tryz.func46 Tryz.ntmps46 Tryz.results46 rfl rfl (dP (aJ (cR hs rfl rfl rfl (fun b1 w hb1 hbe1 hs => aJ (aX hs z_77 rfl (fun b2 w hb2 he2 hs => aH (aF (bV hs [1, 4, 6] mixed (fun w hs => dI 0 rfl (fun w => aR fo_90_0 rfl) rfl rfl (dJ 1 rfl hs rfl (fun w hs => (aO rfl (ld_hd (a := nmC a.name a.name.length) k_86 (hs.g 1 rfl) hnl))) rfl (dI 3 rfl (fun w => aR fo_90_1 rfl) rfl rfl (dJ 4 rfl hs rfl (fun w hs => (aO rfl (cT k_87 (hs.g 1 rfl) hnl (i := 0) rfl rfl))) rfl (dI 5 rfl (fun w => aR fo_90_2 rfl) rfl rfl (dJ 6 rfl hs rfl (fun w hs => (aO rfl (cT k_88 (hs.g 1 rfl) hnl (i := 1) rfl rfl))) rfl (dL 2 rfl (cF (cD rfl rfl ok_113 (c_textOf hs.isIn a.name hn)) rfl (fun v5 w HF => ?_)))))))))))))))))
 obtain ⟨rfl, hc⟩ := HF
 replace hs := hs.frame hc
 refine ⟨fun _ => hs, dI 7 rfl (fun w => (bL rfl (by rfl) (bu_77_0_1_2 _ _ _))) rfl rfl (dL 8 rfl (dR 0 hs k_77 rfl rfl rfl (by simp) (by simp) (aG rfl) rfl (fun w hs => ⟨fun h => absurd h (by decide +kernel), bS (by decide +kernel) (aV ⟨_, res1 ⟨_, rfl, aP k_77 (hs.g 0 rfl) rfl⟩, ?_⟩)⟩)))⟩
 exact ⟨rfl, (hs.drop hb2).drop hb1⟩
theorem c_recordOf (hV : V.In w0) {x : PRec} {rcs : List Value} (hR : RRes V x rcs) : CallsV Tryz.prog 47 #[.agg rcs.toArray] w0 fun v w' => ∃ (V' : Vw) (rc : List Value), v = .agg rc.toArray ∧ St ⟨w0, V, V'⟩ w' [] ∧ RRec V' x rc := by
 obtain ⟨h, r, bv, rfl, rfl, hB, hnm, hsm, hnorm⟩ := hR
 have hhl := hdrC_len hnm
 have hs := St.start hV
 refine aT [_] Tryz.func47 Tryz.ntmps47 Tryz.results47 rfl rfl (dP (aJ (cR hs rfl rfl rfl (fun b1 w hb1 hbe1 hs => aJ (aX hs z_30 rfl (fun b2 w hb2 he2 hs => aH (aF (e_draw (fun w2 => w2.heap[b1]? = some (.cells (hdrC h ++ [bv]).toArray 116 (0, 0))) [1, 4] mixed (fun w hw => ?_)))))))))
 replace hs := hw.st hs
 refine dI 0 rfl (fun w => aR fo_116_1 rfl) rfl rfl (dJ 1 rfl (hs.g 1 rfl) rfl (fun w hf => (aO rfl (cT k_114 hf hhl (i := 0) rfl rfl))) rfl (dI 3 rfl (fun w => aR fo_116_0 rfl) rfl rfl (dJ 4 rfl (hs.g 1 rfl) rfl (fun w hf => (aO rfl (ld_hd k_112 hf hhl))) rfl (dL 2 rfl (cF (cD rfl rfl ok_115 (c_fromBody hs.isIn hB hsm)) rfl (fun v5 w HF => ?_))))))
 obtain ⟨V', rc, rfl, hc, hRR⟩ := HF
 replace hs := hs.frame hc
 refine ⟨fun _ => hs.g 1 rfl, dL 5 rfl (cF (cD rfl rfl ok_114 (c_withHeader hs.isIn hRR hnm)) rfl (fun v8 w HF => ?_))⟩
 obtain ⟨rc', rfl, hc, hRR2⟩ := HF
 replace hs := hs.frame hc
 refine ⟨fun _ => hs.g 1 rfl, dL 6 rfl (dR 0 hs k_30 rfl rfl rfl hRR2.flat.2 rfl hRR2.flat.1 rfl (fun w hs => ⟨fun h => absurd h (by decide +kernel), bS (by decide +kernel) (aV ⟨_, res1 ⟨_, rfl, aP k_30 (hs.g 0 rfl) hRR2.flat.2⟩, ?_⟩)⟩))⟩
 rw [hnorm] at hRR2
 exact ⟨V', _, rfl, (hs.drop hb2).drop hb1, hRR2⟩
set_option maxHeartbeats 1000000 in
theorem c_asksOf (hV : V.In w0) {qv : Value} {al : List PAsk} (hQ : RQs V qv al) (hn : al.length ≤ 70000) :
  CallsV Tryz.prog 19 #[qv] w0 fun v w' => ∃ V' : Vw, St ⟨w0, V, V'⟩ w' [] ∧ RAsks V' v al := by
 obtain ⟨xs, hS, hR⟩ := hQ
 obtain ⟨a, cap, rfl, hcap, ha⟩ := hS.form
 have hs := St.start hV
 refine aT [_] Tryz.func19 Tryz.ntmps19 Tryz.results19 rfl rfl (dP (dN rfl rfl (aH (dP (aJ (o_bslice0 es_34 hs rfl (fun b6 w hb6 he6 hs => ?_)))))))
 have hsl : Sl 77 3 ⟨w0, V, V⟩ w [] (.slice (some ⟨b6, 0, none⟩) 0 0) 0 [] := Sl.empty hs hb6
 refine dN rfl rfl (aH (aF (dP (dM rfl rfl (lp (bC Tryz.underlying51 rfl) rfl (dM rfl rfl (aH (bQ (dC (fun g : Nat × List Value × Value × Vw => upd (upd (upd (upd emp 9 (.int .i64 g.1)) 8 (.int .i64 al.length)) 7 (.slice a al.length cap)) 3 g.2.2.1) (fun g w' => Sl 77 3 ⟨w0, V, g.2.2.2⟩ w' [] g.2.2.1 g.1 g.2.1 ∧ Rows 3 (fun a c => c = askC a) (al.take g.1) g.2.1 ∧ g.1 ≤ al.length) (fun g => al.length - g.1) (0, [], .slice (some ⟨b6, 0, none⟩) 0 0, V) (aL rfl (aL rfl (aL rfl (aL rfl (bG _))))) ⟨hsl, rfl, Nat.zero_le _⟩ ?_)))))))))
 clear hsl hs
 rintro ⟨j, ys, sv, Vc⟩ w ⟨hsl, hrows, hj⟩
 simp only at hsl hrows hj ⊢
 have hle := hsl.st.view
 refine dP (lp (cY rfl rfl) rfl (aH (aF (bH rfl (fun hc0 => ?_) (fun hc0 => ?_)))))
 obtain ⟨b, p, rfl, hc⟩ := ha (by omega)
 have hjl : j < al.length := by omega
 obtain ⟨c, hRQ, hcl, hct⟩ := hR.at (List.getElem?_eq_getElem hjl)
 have hcf := hRQ.flat
 obtain ⟨X, hX, hs⟩ := hsl.open
 refine aW (aF (bQ (dP (lp (po_iaN j (p + j * 258) es_51 rfl rfl rfl hjl rfl) rfl ?_))))
 refine lp (aO rfl (ld_cells (l := c) k_90 hcl (fun i u hu => by
  rw [Nat.add_assoc]
  exact Vw.cell_in hs.isIn (Vw.cell_le hle (hc _ _ (cell_at hct hu)))))) rfl ?_
 refine aJ (aX hs z_90 rfl (fun b5 w hb5 he5 hs => aJ (dR 0 hs k_90 rfl rfl rfl hcl (by simp) hcf.2 rfl (fun w hs => aH (aB (dM rfl rfl (lp (aO rfl (aP k_90 (hs.g 0 rfl) hcl)) rfl (aZ ok_46 rfl rfl (c_askOf hs.isIn hRQ) rfl (fun v15 w HF => ?_)))))))))
 obtain ⟨rfl, hc⟩ := HF
 replace hs := hs.frame hc
 refine l_app1 (cl := askC al[j]) el_34 (SlX.close (L := [_]) hX hs) (fun _ => rfl) rfl rfl rfl (askC_flat _) (by omega) (by omega) (by omega) rfl rfl (fun b16 sv' w hs => ?_)
 replace hs := hs.drop hb5
 skip
 refine dN rfl rfl (aH (aB (lp (bN rfl rfl (i64c (c := j + 1) (by omega) (by omega))) rfl (dM rfl rfl (aH ?_)))))
 exact ⟨(j + 1, _, sv', Vc), aL rfl (aL rfl (aL rfl (aL rfl (bG _)))), ⟨hs, by
  show Rows 3 (fun a c => c = askC a) (al.take (j + 1)) _
  rw [List.take_succ, List.getElem?_eq_getElem hjl]
  exact Rows.snoc hrows rfl rfl, by simp only; omega⟩, by simp only; omega⟩
 refine e_exit (aF ?_)
 have hjn : j = al.length := by omega
 subst hjn
 rw [List.take_length] at hrows
 obtain ⟨V', hle', hsv, hs⟩ := hsl.give
 refine aB (dM rfl rfl (dN rfl rfl (aH (aV ⟨_, res1 rfl, ?_⟩))))
 exact ⟨V', hs, _, hsv, hrows⟩
set_option maxHeartbeats 1000000 in
theorem c_recordsOf (hV : V.In w0) {qv : Value} {al : List PRec} (hQ : RRess V qv al) (hn : al.length ≤ 70000) :
  CallsV Tryz.prog 20 #[qv] w0 fun v w' => ∃ V' : Vw, St ⟨w0, V, V'⟩ w' [] ∧ RRecs V' v al := by
 obtain ⟨xs, hS, hR⟩ := hQ
 obtain ⟨a, cap, rfl, hcap, ha⟩ := hS.form
 have hs := St.start hV
 refine aT [_] Tryz.func20 Tryz.ntmps20 Tryz.results20 rfl rfl (dP (dN rfl rfl (aH (dP (aJ (o_bslice0 es_31 hs rfl (fun b6 w hb6 he6 hs => ?_)))))))
 have hsl : Sl 30 16 ⟨w0, V, V⟩ w [] (.slice (some ⟨b6, 0, none⟩) 0 0) 0 [] := Sl.empty hs hb6
 refine dN rfl rfl (aH (aF (dP (dM rfl rfl (lp (bC Tryz.underlying52 rfl) rfl (dM rfl rfl (aH (bQ (dC (fun g : Nat × List Value × Value × Vw => upd (upd (upd (upd emp 9 (.int .i64 g.1)) 8 (.int .i64 al.length)) 7 (.slice a al.length cap)) 3 g.2.2.1) (fun g w' => Sl 30 16 ⟨w0, V, g.2.2.2⟩ w' [] g.2.2.1 g.1 g.2.1 ∧ Rows 16 (RRec g.2.2.2) (al.take g.1) g.2.1 ∧ g.1 ≤ al.length) (fun g => al.length - g.1) (0, [], .slice (some ⟨b6, 0, none⟩) 0 0, V) (aL rfl (aL rfl (aL rfl (aL rfl (bG _))))) ⟨hsl, rfl, Nat.zero_le _⟩ ?_)))))))))
 clear hsl hs
 rintro ⟨j, ys, sv, Vc⟩ w ⟨hsl, hrows, hj⟩
 simp only at hsl hrows hj ⊢
 have hle := hsl.st.view
 refine dP (lp (cY rfl rfl) rfl (aH (aF (bH rfl (fun hc0 => ?_) (fun hc0 => ?_)))))
 obtain ⟨b, p, rfl, hc⟩ := ha (by omega)
 have hjl : j < al.length := by omega
 obtain ⟨c, hRQ, hcl, hct⟩ := hR.at (List.getElem?_eq_getElem hjl)
 have hcf := hRQ.flat
 obtain ⟨X, hX, hs⟩ := hsl.open
 refine aW (aF (bQ (dP (lp (po_iaN j (p + j * 261) es_52 rfl rfl rfl hjl rfl) rfl ?_))))
 refine lp (aO rfl (ld_cells (l := c) k_116 hcl (fun i u hu => by
  rw [Nat.add_assoc]
  exact Vw.cell_in hs.isIn (Vw.cell_le hle (hc _ _ (cell_at hct hu)))))) rfl ?_
 refine aJ (aX hs z_116 rfl (fun b5 w hb5 he5 hs => aJ (dR 0 hs k_116 rfl rfl rfl hcl (by simp) hcf.2 rfl (fun w hs => aH (aB (dM rfl rfl (lp (aO rfl (aP k_116 (hs.g 0 rfl) hcl)) rfl (aZ ok_47 rfl rfl (c_recordOf hs.isIn (hRQ.mono hle)) rfl (fun v15 w HF => ?_)))))))))
 obtain ⟨V', rc, rfl, hc, hRR⟩ := HF
 replace hs := hs.frame hc
 have hle' := hc.view
 refine l_app1 (cl := rc) el_31 (SlX.close (L := [_]) hX hs) (fun _ => rfl) rfl rfl hRR.flat.2 hRR.flat.1 (by omega) (by omega) (by omega) rfl rfl (fun b16 sv' w hs => ?_)
 replace hs := hs.drop hb5
 skip
 refine dN rfl rfl (aH (aB (lp (bN rfl rfl (i64c (c := j + 1) (by omega) (by omega))) rfl (dM rfl rfl (aH ?_)))))
 exact ⟨(j + 1, _, sv', V'), aL rfl (aL rfl (aL rfl (aL rfl (bG _)))), ⟨hs, by
  show Rows 16 (RRec V') (al.take (j + 1)) _
  rw [List.take_succ, List.getElem?_eq_getElem hjl]
  exact Rows.snoc (hrows.mono fun _ _ h => h.mono hle') hRR hRR.flat.2, by simp only; omega⟩, by simp only; omega⟩
 refine e_exit (aF ?_)
 have hjn : j = al.length := by omega
 subst hjn
 rw [List.take_length] at hrows
 obtain ⟨V', hle', hsv, hs⟩ := hsl.give
 refine aB (dM rfl rfl (dN rfl rfl (aH (aV ⟨_, res1 rfl, ?_⟩))))
 exact ⟨V', hs, _, hsv, hrows.mono fun _ _ h => h.mono hle'⟩
end
end Go.Proofs.YtgpfjlfkaoffeaaGreatDoor
namespace Go.Proofs.YtgpfjlfkaoffeaaGreatDoor
open Go
section
variable {A : Nat → Addr} {V : Vw} {w0 : World}
theorem c_faultOf (hG : Gl A V) (hV : V.In w0) {e : Value} {k : EK} (he : ErrV A e k) : CallsV Tryz.prog 36 #[e] w0 fun v w' => v = .int .i64 (k.num : Nat) ∧ St ⟨w0, V, V⟩ w' [] := by
 have hs := St.start hV
 refine aT [_] Tryz.func36 Tryz.ntmps36 Tryz.results36 rfl rfl (dP (dN rfl rfl (aH (aF (dP (dM rfl rfl (aH (bQ (dP (lp (po_err_eq_nil he rfl) rfl (dN rfl rfl (aH (bH rfl (fun hc0 => ?_) (fun hc0 => ?_))))))))))))))
 refine dP (dN rfl rfl (aH (aV ⟨_, res1 rfl, ?_⟩)))
 subst hc0
 exact ⟨rfl, hs⟩
 refine dP (lp (aO rfl (bR k_57 (hG.ld hs.isIn (g := 4) rfl))) rfl (lp (po_err_eq_g (.inl ⟨rfl, rfl⟩) hG hs.isIn he rfl rfl) rfl (dN rfl rfl (aH (bH rfl (fun hc1 => ?_) (fun hc1 => ?_))))))
 refine dP (dN rfl rfl (aH (aV ⟨_, res1 rfl, ?_⟩)))
 subst hc1
 exact ⟨rfl, hs⟩
 refine dP (lp (aO rfl (bR k_57 (hG.ld hs.isIn (g := 5) rfl))) rfl (lp (po_err_eq_g (.inr ⟨rfl, rfl⟩) hG hs.isIn he rfl rfl) rfl (dN rfl rfl (aH (bH rfl (fun hc2 => ?_) (fun hc2 => ?_))))))
 refine dP (dN rfl rfl (aH (aV ⟨_, res1 rfl, ?_⟩)))
 subst hc2
 exact ⟨rfl, hs⟩
 refine aW (dP (dN rfl rfl (aH (aV ⟨_, res1 rfl, ?_⟩))))
 have hk : k = .other := by cases k <;> first | rfl | exact absurd rfl hc0 | exact absurd rfl hc1 | exact absurd rfl hc2
 subst hk
 exact ⟨rfl, hs⟩
theorem c_headOf (hV : V.In w0) (id bits : Nat) : CallsV Tryz.prog 18 #[.agg (headC id bits).toArray] w0 fun v w' => v = .agg (headC id bits).toArray ∧ St ⟨w0, V, V⟩ w' [] := by
 have hs := St.start hV
 refine aT [_] Tryz.func18 Tryz.ntmps18 Tryz.results18 rfl rfl (dP (aJ (cR hs rfl rfl rfl (fun b1 w hb1 hbe1 hs => aJ (aX hs z_33 rfl (fun b2 w hb2 he2 hs => aH (dP (lp (aR fo_50_0 rfl) rfl (lp (aO rfl (aQ k_22 (hs.g 1 rfl) rfl)) rfl (lp (aR fo_50_1 rfl) rfl (lp (aO rfl (aQ k_4 (hs.g 1 rfl) rfl)) rfl (lp (aR fo_50_2 rfl) rfl (lp (aO rfl (aQ k_47 (hs.g 1 rfl) rfl)) rfl (lp (aR fo_50_3 rfl) rfl (lp (aO rfl (aQ k_4 (hs.g 1 rfl) rfl)) rfl ?_)))))))))))))))
 refine lp (aR fo_50_4 rfl) rfl (lp (aO rfl (aQ k_4 (hs.g 1 rfl) rfl)) rfl (lp (aR fo_50_5 rfl) rfl (lp (aO rfl (aQ k_4 (hs.g 1 rfl) rfl)) rfl (lp (aR fo_50_6 rfl) rfl (lp (aO rfl (aQ k_4 (hs.g 1 rfl) rfl)) rfl (lp (aR fo_50_7 rfl) rfl (lp (aO rfl (aQ k_4 (hs.g 1 rfl) rfl)) rfl (lp (aR fo_50_8 rfl) rfl (lp (aO rfl (aQ k_4 (hs.g 1 rfl) rfl)) rfl (lp (aR fo_50_9 rfl) rfl (lp (aO rfl (aQ k_48 (hs.g 1 rfl) rfl)) rfl (lp (bL rfl (by rfl) (bu_33_0_1_2_3_4_5_6_7_8_9 _ _ _ _ _ _ _ _ _ _)) rfl (aJ (dR 0 hs bZ rfl rfl rfl (by simp) (by simp) (aG rfl) rfl (fun w hs => ?_)))))))))))))))
 refine aH (aV ⟨_, res1 ⟨_, rfl, aP bZ (hs.g 0 rfl) rfl⟩, ?_⟩)
 exact ⟨rfl, (hs.drop hb2).drop hb1⟩
theorem headC0 : headC 0 0 = [.int .u16 0, .bool false, .int .u16 0, .bool false, .bool false, .bool false, .bool false, .bool false, .bool false, .int .u16 0] := rfl
theorem RSeen.fault (V : Vw) (k : EK) : RSeen V { fault := k.num } (.int .i64 (k.num : Nat) :: (headC 0 0 ++ [.slice none 0 0, .slice none 0 0])) := ⟨_, _, rfl, RAsks.nil V, RRecs.nil V⟩
theorem onlyRec_bad {k : EK} {r : Option PRec} (h : k ≠ .ok) : onlyRec k r = { fault := k.num } := by
 unfold onlyRec; cases k <;> first | rfl | exact absurd rfl h
theorem header_whole {l : List UInt8} {n o : Nat} {r : PRec} (h : header l n = some (r, o)) : whole {} r = r := by
 simp only [header, Option.bind_eq_some_iff, Option.map_eq_some_iff] at h
 obtain ⟨x, h1, t, h2, c, h3, ttl, h4, len, h5, h6⟩ := h
 cases h6
 rfl
theorem c_seenHeader (hG : Gl A V) (hV : V.In w0) {e : Value} {k : EK} (he : ErrV A e k) {hcs : List Value} {ro : Option PRec} (hl : hcs.length = 260) (hf : Flat hcs) (hr : k = .ok → ∃ r, ro = some r ∧ hcs = hdrC r ∧ r.name.length ≤ 254 ∧ whole {} r = r) :
  CallsV Tryz.prog 71 #[.agg hcs.toArray, e] w0 fun v w' => ∃ (V' : Vw) (sc : List Value), v = .agg sc.toArray ∧ St ⟨w0, V, V'⟩ w' [] ∧ RSeen V' (onlyRec k ro) sc := by
 have hs := St.start hV
 refine aT [_, _] Tryz.func71 Tryz.ntmps71 Tryz.results71 rfl rfl (dP (aJ (cR hs rfl rfl rfl (fun b2 w hb2 hbe2 hs => aJ (aX hs z_81 rfl (fun b4 w hb4 he4 hs => aH (aF (dP (dM rfl rfl (lp (bB he rfl) rfl (aH (bH rfl (fun hc0 => ?_) (fun hc0 => ?_)))))))))))))
 refine dP (dM rfl rfl (aZ ok_36 rfl rfl (c_faultOf hG hs.isIn he) rfl (fun v8 w HF => ?_)))
 obtain ⟨rfl, hc⟩ := HF
 replace hs := hs.frame hc
 refine lp (bL rfl (by rfl) (bu_81_0 _)) rfl (aJ (dR 0 hs k_81 rfl rfl rfl (by simp) (by simp) (aG rfl) rfl (fun w hs => aH (aV ⟨_, res1 ⟨_, rfl, aP k_81 (hs.g 0 rfl) rfl⟩, ?_⟩))))
 exact ⟨V, _, rfl, (hs.drop hb4).drop hb2, by rw [onlyRec_bad hc0]; exact RSeen.fault V k⟩
 have hk : k = .ok := by simpa using hc0
 subst hk
 obtain ⟨r, rfl, rfl, hnm, hwh⟩ := hr rfl
 refine aW (dP (lp (bM (vs := []) (ps := []) rfl bz_30) rfl (lp (aO rfl (aP k_112 (hs.g 1 rfl) hl)) rfl (aZ ok_114 rfl rfl (c_withHeader (x := {}) hs.isIn ⟨_, _, _, rfl, RB.nil V, RTexts.nil V, RPairs.nil V⟩ hnm) rfl (fun v12 w HF => ?_)))))
 obtain ⟨rc, rfl, hc, hRR⟩ := HF
 replace hs := hs.frame hc
 rw [hwh] at hRR
 refine aJ (o_bslice (vls := [rc]) el_31 hs rfl rfl rfl rfl (by simpa using hRR.flat.2) (by decide) (by decide) rfl (fun b13 w hb13 he13 hs => ?_))
 rw [show [rc].flatten = rc from List.append_nil _] at hs
 refine lp (bL rfl (by rfl) (bu_81_3 _)) rfl (aJ (dR 1 hs k_81 rfl rfl rfl (by simp) (by simp) (aG rfl) rfl (fun w hs => aH (aV ⟨_, res1 ⟨_, rfl, aP k_81 (hs.g 1 rfl) rfl⟩, ?_⟩))))
 obtain ⟨V', hle, hbv, hs⟩ := hs.give hb13
 refine ⟨V', _, rfl, (hs.drop hb4).drop hb2, .slice none 0 0, .slice (some ⟨b13, 0, none⟩) 1 1, (by show _ = Value.int .i64 0 :: (headC 0 0 ++ [Value.slice none 0 0, Value.slice (some ⟨b13, 0, none⟩) 1 1]); rw [headC0]; rfl), RAsks.nil V', rc, ?_, Rows.one (hRR.mono hle) hRR.flat.2⟩
 exact SlV.cells (sp := []) (by rw [List.append_nil]; exact hbv) hRR.flat.2 (Nat.le_refl _)
theorem rseen_recs {V : Vw} {v : Value} {l : List PRec} (h : RRecs V v l) : RSeen V { recs := l } (.int .i64 0 :: (headC 0 0 ++ [.slice none 0 0, v])) := ⟨_, _, rfl, RAsks.nil V, h⟩
theorem c_seenRecord (hG : Gl A V) (hV : V.In w0) {e : Value} {k : EK} (he : ErrV A e k) {rcs : List Value} {ro : Option PRec} (hl : rcs.length = 261) (hr : k = .ok → ∃ x, ro = some x ∧ RRes V x rcs) :
  CallsV Tryz.prog 73 #[.agg rcs.toArray, e] w0 fun v w' => ∃ (V' : Vw) (sc : List Value), v = .agg sc.toArray ∧ St ⟨w0, V, V'⟩ w' [] ∧ RSeen V' (onlyRec k ro) sc := by
 have hs := St.start hV
 refine aT [_, _] Tryz.func73 Tryz.ntmps73 Tryz.results73 rfl rfl (dP (aJ (cR hs rfl rfl rfl (fun b2 w hb2 hbe2 hs => aJ (aX hs z_81 rfl (fun b4 w hb4 he4 hs => aH (aF (dP (dM rfl rfl (lp (bB he rfl) rfl (aH (bH rfl (fun hc0 => ?_) (fun hc0 => ?_)))))))))))))
 refine dP (dM rfl rfl (aZ ok_36 rfl rfl (c_faultOf hG hs.isIn he) rfl (fun v8 w HF => ?_)))
 obtain ⟨rfl, hc⟩ := HF
 replace hs := hs.frame hc
 refine lp (bL rfl (by rfl) (bu_81_0 _)) rfl (aJ (dR 0 hs k_81 rfl rfl rfl (by simp) (by simp) (aG rfl) rfl (fun w hs => aH (aV ⟨_, res1 ⟨_, rfl, aP k_81 (hs.g 0 rfl) rfl⟩, ?_⟩))))
 exact ⟨V, _, rfl, (hs.drop hb4).drop hb2, by rw [onlyRec_bad hc0]; exact RSeen.fault V k⟩
 have hk : k = .ok := by simpa using hc0
 subst hk
 obtain ⟨x, rfl, hRR0⟩ := hr rfl
 refine aW (dP (lp (aO rfl (aP k_116 (hs.g 1 rfl) hl)) rfl (aZ ok_47 rfl rfl (c_recordOf hs.isIn hRR0) rfl (fun v11 w HF => ?_))))
 obtain ⟨V1, rc, rfl, hc, hRR⟩ := HF
 replace hs := hs.frame hc
 refine aJ (o_bslice (vls := [rc]) el_31 hs rfl rfl rfl rfl (by simpa using hRR.flat.2) (by decide) (by decide) rfl (fun b13 w hb13 he13 hs => ?_))
 rw [show [rc].flatten = rc from List.append_nil _] at hs
 refine lp (bL rfl (by rfl) (bu_81_3 _)) rfl (aJ (dR 1 hs k_81 rfl rfl rfl (by simp) (by simp) (aG rfl) rfl (fun w hs => aH (aV ⟨_, res1 ⟨_, rfl, aP k_81 (hs.g 1 rfl) rfl⟩, ?_⟩))))
 obtain ⟨V', hle, hbv, hs⟩ := hs.give hb13
 refine ⟨V', _, rfl, (hs.drop hb4).drop hb2, rseen_recs (v := .slice (some ⟨b13, 0, none⟩) 1 1) ⟨rc, SlV.cells (sp := []) (by rw [List.append_nil]; exact hbv) hRR.flat.2 (Nat.le_refl _), Rows.one (hRR.mono hle) hRR.flat.2⟩⟩
theorem c_seenRecords (hG : Gl A V) (hV : V.In w0) {e : Value} {k : EK} (he : ErrV A e k) {qv : Value} {rl : List PRec} (hn : rl.length ≤ 70000) (hr : k = .ok → RRess V qv rl) :
  CallsV Tryz.prog 75 #[qv, e] w0 fun v w' => ∃ (V' : Vw) (sc : List Value), v = .agg sc.toArray ∧ St ⟨w0, V, V'⟩ w' [] ∧ RSeen V' { fault := k.num, recs := if k = .ok then rl else [] } sc := by
 have hs := St.start hV
 refine aT [_, _] Tryz.func75 Tryz.ntmps75 Tryz.results75 rfl rfl (dP (aJ (aX hs z_81 rfl (fun b4 w hb4 he4 hs => aH (aF (dP (dM rfl rfl (lp (bB he rfl) rfl (aH (bH rfl (fun hc0 => ?_) (fun hc0 => ?_)))))))))))
 refine dP (dM rfl rfl (aZ ok_36 rfl rfl (c_faultOf hG hs.isIn he) rfl (fun v8 w HF => ?_)))
 obtain ⟨rfl, hc⟩ := HF
 replace hs := hs.frame hc
 refine lp (bL rfl (by rfl) (bu_81_0 _)) rfl (aJ (dR 0 hs k_81 rfl rfl rfl (by simp) (by simp) (aG rfl) rfl (fun w hs => aH (aV ⟨_, res1 ⟨_, rfl, aP k_81 (hs.g 0 rfl) rfl⟩, ?_⟩))))
 exact ⟨V, _, rfl, hs.drop hb4, by rw [if_neg hc0]; exact RSeen.fault V k⟩
 have hk : k = .ok := by simpa using hc0
 subst hk
 refine aW (dP (dM rfl rfl (aZ ok_20 rfl rfl (c_recordsOf hs.isIn (hr rfl) hn) rfl (fun v11 w HF => ?_))))
 obtain ⟨V1, hc, hRR⟩ := HF
 replace hs := hs.frame hc
 refine lp (bL rfl (by simp only [List.all_cons, List.all_nil, hRR.oneCell]; rfl) (bu_81_3 _)) rfl (aJ (dR 0 hs k_81 rfl rfl rfl rfl rfl (aG (by simp only [List.all_cons, List.all_nil, hRR.oneCell]; rfl)) rfl (fun w hs => aH (aV ⟨_, res1 ⟨_, rfl, aP k_81 (hs.g 0 rfl) rfl⟩, ?_⟩))))
 exact ⟨V1, _, rfl, hs.drop hb4, rseen_recs hRR⟩
theorem c_seenBody (hG : Gl A V) (hV : V.In w0) {e : Value} {k : EK} (he : ErrV A e k) {rc : List Value} {ro : Option PRec} (hl : rc.length = 16) (hf : Flat rc) (hr : k = .ok → ∃ x, ro = some x ∧ RRec V x rc) :
  CallsV Tryz.prog 87 #[.agg rc.toArray, e] w0 fun v w' => ∃ (V' : Vw) (sc : List Value), v = .agg sc.toArray ∧ St ⟨w0, V, V'⟩ w' [] ∧ RSeen V' (onlyRec k ro) sc := by
 have hs := St.start hV
 refine aT [_, _] Tryz.func87 Tryz.ntmps87 Tryz.results87 rfl rfl (dP (aJ (cR hs rfl rfl rfl (fun b2 w hb2 hbe2 hs => aJ (aX hs z_81 rfl (fun b4 w hb4 he4 hs => aH (aF (dP (dM rfl rfl (lp (bB he rfl) rfl (aH (bH rfl (fun hc0 => ?_) (fun hc0 => ?_)))))))))))))
 refine dP (dM rfl rfl (aZ ok_36 rfl rfl (c_faultOf hG hs.isIn he) rfl (fun v8 w HF => ?_)))
 obtain ⟨rfl, hc⟩ := HF
 replace hs := hs.frame hc
 refine lp (bL rfl (by rfl) (bu_81_0 _)) rfl (aJ (dR 0 hs k_81 rfl rfl rfl (by simp) (by simp) (aG rfl) rfl (fun w hs => aH (aV ⟨_, res1 ⟨_, rfl, aP k_81 (hs.g 0 rfl) rfl⟩, ?_⟩))))
 exact ⟨V, _, rfl, (hs.drop hb4).drop hb2, by rw [onlyRec_bad hc0]; exact RSeen.fault V k⟩
 have hk : k = .ok := by simpa using hc0
 subst hk
 obtain ⟨x, rfl, hRR⟩ := hr rfl
 refine aW (dP (lp (aO rfl (aP k_30 (hs.g 1 rfl) hl)) rfl (aJ (o_bslice (vls := [rc]) el_31 hs rfl rfl rfl rfl (by simpa using hRR.flat.2) (by decide) (by decide) rfl (fun b13 w hb13 he13 hs => ?_)))))
 rw [show [rc].flatten = rc from List.append_nil _] at hs
 refine lp (bL rfl (by rfl) (bu_81_3 _)) rfl (aJ (dR 1 hs k_81 rfl rfl rfl (by simp) (by simp) (aG rfl) rfl (fun w hs => aH (aV ⟨_, res1 ⟨_, rfl, aP k_81 (hs.g 1 rfl) rfl⟩, ?_⟩))))
 obtain ⟨V', hle, hbv, hs⟩ := hs.give hb13
 refine ⟨V', _, rfl, (hs.drop hb4).drop hb2, rseen_recs (v := .slice (some ⟨b13, 0, none⟩) 1 1) ⟨rc, SlV.cells (sp := []) (by rw [List.append_nil]; exact hbv) hRR.flat.2 (Nat.le_refl _), Rows.one (hRR.mono hle) hRR.flat.2⟩⟩
end
end Go.Proofs.YtgpfjlfkaoffeaaGreatDoor

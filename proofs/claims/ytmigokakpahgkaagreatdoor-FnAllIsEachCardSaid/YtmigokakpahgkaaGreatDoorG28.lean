/- The reference's machine: a step of a section. The reference's run. -/
import Derived.Test.YtmigokakpahgkaaGreatDoorG27
import Derived.Test.YtmigokakpahgkaaGreatDoorG21
set_option linter.all false
namespace Go.Proofs.YtmigokakpahgkaaGreatDoor
open Go
section
variable {V : Vw} {w0 : World} {l : List UInt8} {mv : Value} {bp : Nat} {E : TypeId} {m : PM} {cs : List Value}
set_option maxHeartbeats 4000000 in
theorem c_mpart0 (hV : V.In w0) (hb : RB V mv l) (hown : w0.heap[bp]? = some (.cells cs.toArray E (0, 0))) (hvn : V bp = none) (hp : MR l mv m cs) (hwf : WF l m) (h2l : l.length ≤ 4294967296) (s : Nat) {sv : Int} (hsv : sv = (s : Int) - 1) (h1 : 1 ≤ s) (h2 : s ≤ 4) :
  CallsV Tryz.prog 35 #[.pointer (some ⟨bp, 0, none⟩), .int .i64 sv, .int .i64 0] w0 fun v w' => ∃ (V' : Vw) (cs' sc : List Value) (z : PSeen) (m' : PM), v = .agg sc.toArray ∧ St ⟨w0, V, V'⟩ w' [(bp, .cells cs'.toArray E (0, 0))] ∧ partM l m s 0 = (z, m') ∧ MR l mv m' cs' ∧ WF l m' ∧ RSeen V' z sc := by
 have hs := St.start1 hV hown (bU _ _) hvn
 refine aT [_, _, _] Tryz.func35 Tryz.ntmps35 Tryz.results35 rfl rfl (dP (aJ (aX hs z_33 rfl (fun b6 w hb6 he6 hs => ?_))))
 obtain ⟨zz, hzl, hs⟩ : ∃ zz : List Value, zz.length = 13 ∧ St ⟨w0, V, V⟩ w [(b6, .cells zz.toArray 33 (0, 0)), (bp, .cells cs.toArray E (0, 0))] := ⟨_, rfl, hs⟩
 refine aH (dP (lp (bM (vs := []) (ps := []) rfl bz_33) rfl (aJ (aX hs z_33 rfl (fun b7 w hb7 he7 hs => aJ (dR 0 hs bZ rfl rfl rfl (by simp) (by simp) (aG (by decide +kernel)) rfl (fun w hs => ?_)))))))
 replace hs : St ⟨w0, V, V⟩ _ [(b7, .cells (seC 0 (.slice none 0 0) (.slice none 0 0)).toArray 33 (0, 0)), (b6, .cells zz.toArray 33 (0, 0)), (bp, .cells cs.toArray E (0, 0))] := hs
 refine aH (aF (dP (dM rfl rfl (aH (bQ (aF (dP (lp (bI rfl rfl) rfl (dN rfl rfl (aH (cO rfl rfl (aW (cO rfl rfl ?_)))))))))))))
 refine dP (lp (bM (vs := []) (ps := []) rfl bz_72) rfl (aJ (aX hs z_72 rfl (fun b8 w hb8 he8 hs => aJ (dR 0 hs bT rfl rfl rfl (by simp) (by simp) (aG (by decide +kernel)) rfl (fun w hs => dN rfl rfl (aH (aF (dP (dM rfl rfl (lp (bI rfl rfl) rfl (aH (cO rfl rfl (aB (dM rfl rfl ?_)))))))))))))))
 refine dM rfl rfl (aZ ok_100 rfl rfl (c_mbegin hs.isIn hb (hs.g 3 rfl) (hs.off (k := 3) rfl) hp hwf h2l s hsv h1 h2) rfl (fun v34 w HF => ?_))
 obtain ⟨cs', rcs, k, ro, m', rfl, hc, hm, hp', hal, haf, ha0⟩ := HF
 replace hs := hs.frame1 (k := 3) rfl rfl hc
 have hwf' := wf_beginM hwf h1 h2
 rw [hm] at hwf'
 have ha : k = .ok → ∃ r, ro = some r ∧ RRec V r rcs := fun hk => by
  subst hk
  obtain ⟨r, rfl, rfl⟩ := ha0 rfl
  have hw := beginM_whole hm
  refine ⟨r, rfl, ?_⟩
  rw [← hw]
  exact ⟨_, _, _, rfl, RB.nil V, RTexts.nil V, RPairs.nil V⟩
 refine dM rfl rfl (dO rfl rfl rfl (dO rfl rfl rfl (aJ (dR 0 hs bT rfl rfl rfl hal rfl haf rfl (fun w hs => dN rfl rfl (aH (dG (fun ρ w => ∃ (V2 : Vw) (vr : Value), Sub (upd (upd (upd (upd emp 9 (.int .i64 (k.num : Nat))) 7 (.pointer (some ⟨b7, 0, none⟩))) 6 (.pointer (some ⟨b6, 0, none⟩))) 0 (.pointer (some ⟨bp, 0, none⟩))) ρ ∧ St ⟨w0, V, V2⟩ w [(b8, .cells rcs.toArray 72 (0, 0)), (b7, .cells (seC 0 (.slice none 0 0) vr).toArray 33 (0, 0)), (b6, .cells zz.toArray 33 (0, 0)), (bp, .cells cs'.toArray E (0, 0))] ∧ RRecs V2 vr (onlyRec k ro).recs) ?_ ?_)))))))
 refine dP (dM rfl rfl (lp (bI rfl rfl) rfl (aH (bH rfl (fun hc3 => ?_) (fun hc3 => ?_)))))
 refine aB (lp (aO rfl (aP bT (hs.g 0 rfl) hal)) rfl (aJ (o_bslice (vls := [rcs]) el_31 hs rfl rfl rfl rfl (by simpa using hal) (by decide) (by decide) rfl (fun b46 w hb46 he46 hs => ?_))))
 rw [show [rcs].flatten = rcs from List.append_nil _] at hs
 obtain ⟨V2, hle1, hbv, hs⟩ := hs.give hb46
 refine lp (aR fo_33_3 rfl) rfl (aJ (dQ 1 hs k_31 rfl rfl rfl rfl rfl rfl rfl (fun w hs => aH ?_)))
 have hk := num_eq0.1 hc3
 subst hk
 obtain ⟨x, rfl, hx⟩ := ha rfl
 exact ⟨V2, .slice (some ⟨b46, 0, none⟩) 1 1, aL rfl (aL rfl (aL rfl (aL rfl (bG _)))), hs, rcs, SlV.cells (sp := []) (by rw [List.append_nil]; exact hbv) hal (Nat.le_refl _), Rows.one (hx.mono hle1) hal⟩
 refine aW ?_
 exact ⟨V, .slice none 0 0, aL rfl (aL rfl (aL rfl (aL rfl (bG _)))), hs, by rw [onlyRec_bad (fun h => hc3 (num_eq0.2 h))]; exact RRecs.nil _⟩
 clear hs
 rintro ρ w ⟨V2, vr, hsub, hs, hRA⟩
 refine EW.weaken hsub (aB (dM rfl rfl (lp (aR cV rfl) rfl (aJ (dQ 1 hs cH rfl rfl rfl rfl rfl rfl rfl (fun w hs => aH (dP (lp (aO rfl (aP bZ (hs.g 1 rfl) rfl)) rfl (aJ (dR 2 hs bZ rfl rfl rfl rfl hzl (seC_flat (f := k.num) rfl hRA.oneCell) rfl (fun w hs => aH (aV ⟨_, res1 ⟨_, rfl, aP bZ (hs.g 2 rfl) rfl⟩, ?_⟩))))))))))))
 exact ⟨V2, _, _, _, m', rfl, ((hs.drop hb8).drop hb7).drop hb6, partM_0 hm, hp', hwf', ⟨.slice none 0 0, vr, rfl, RAsks.nil V2, hRA⟩⟩
set_option maxHeartbeats 4000000 in
theorem c_mpart1 (hV : V.In w0) (hb : RB V mv l) (hown : w0.heap[bp]? = some (.cells cs.toArray E (0, 0))) (hvn : V bp = none) (hp : MR l mv m cs) (hwf : WF l m) (h2l : l.length ≤ 4294967296) (s : Nat) {sv : Int} (hsv : sv = (s : Int) - 1) (h1 : 1 ≤ s) (h2 : s ≤ 4) :
  CallsV Tryz.prog 35 #[.pointer (some ⟨bp, 0, none⟩), .int .i64 sv, .int .i64 1] w0 fun v w' => ∃ (V' : Vw) (cs' sc : List Value) (z : PSeen) (m' : PM), v = .agg sc.toArray ∧ St ⟨w0, V, V'⟩ w' [(bp, .cells cs'.toArray E (0, 0))] ∧ partM l m s 1 = (z, m') ∧ MR l mv m' cs' ∧ WF l m' ∧ RSeen V' z sc := by
 have hs := St.start1 hV hown (bU _ _) hvn
 refine aT [_, _, _] Tryz.func35 Tryz.ntmps35 Tryz.results35 rfl rfl (dP (aJ (aX hs z_33 rfl (fun b6 w hb6 he6 hs => ?_))))
 obtain ⟨zz, hzl, hs⟩ : ∃ zz : List Value, zz.length = 13 ∧ St ⟨w0, V, V⟩ w [(b6, .cells zz.toArray 33 (0, 0)), (bp, .cells cs.toArray E (0, 0))] := ⟨_, rfl, hs⟩
 refine aH (dP (lp (bM (vs := []) (ps := []) rfl bz_33) rfl (aJ (aX hs z_33 rfl (fun b7 w hb7 he7 hs => aJ (dR 0 hs bZ rfl rfl rfl (by simp) (by simp) (aG (by decide +kernel)) rfl (fun w hs => ?_)))))))
 replace hs : St ⟨w0, V, V⟩ _ [(b7, .cells (seC 0 (.slice none 0 0) (.slice none 0 0)).toArray 33 (0, 0)), (b6, .cells zz.toArray 33 (0, 0)), (bp, .cells cs.toArray E (0, 0))] := hs
 refine aH (aF (dP (dM rfl rfl (aH (bQ (aF (dP (lp (bI rfl rfl) rfl (dN rfl rfl (aH (aY rfl rfl (aB (lp (bI rfl rfl) rfl ?_)))))))))))))
 refine dN rfl rfl (aH (cO rfl rfl (dP (lp (bM (vs := []) (ps := []) rfl bz_72) rfl (aJ (aX hs z_72 rfl (fun b8 w hb8 he8 hs => aJ (dR 0 hs bT rfl rfl rfl (by simp) (by simp) (aG (by decide +kernel)) rfl (fun w hs => dN rfl rfl (aH (aF (dP (dM rfl rfl (lp (bI rfl rfl) rfl (aH ?_)))))))))))))))
 refine aY rfl rfl (aB (dM rfl rfl (dM rfl rfl (aZ ok_101 rfl rfl (c_mrecord hs.isIn hb (hs.g 3 rfl) (hs.off (k := 3) rfl) hp hwf h2l s hsv h1 h2) rfl (fun v40 w HF => ?_)))))
 obtain ⟨V1, cs', rcs, k, ro, m', rfl, hc, hm, hp', hal, haf, ha⟩ := HF
 replace hs := hs.frame1 (k := 3) rfl rfl hc
 have hwf' := wf_recordM hwf h1 h2
 rw [hm] at hwf'
 refine dM rfl rfl (dO rfl rfl rfl (dO rfl rfl rfl (aJ (dR 0 hs bT rfl rfl rfl hal rfl haf rfl (fun w hs => dN rfl rfl (aH (dG (fun ρ w => ∃ (V2 : Vw) (vr : Value), Sub (upd (upd (upd (upd emp 9 (.int .i64 (k.num : Nat))) 7 (.pointer (some ⟨b7, 0, none⟩))) 6 (.pointer (some ⟨b6, 0, none⟩))) 0 (.pointer (some ⟨bp, 0, none⟩))) ρ ∧ St ⟨w0, V, V2⟩ w [(b8, .cells rcs.toArray 72 (0, 0)), (b7, .cells (seC 0 (.slice none 0 0) vr).toArray 33 (0, 0)), (b6, .cells zz.toArray 33 (0, 0)), (bp, .cells cs'.toArray E (0, 0))] ∧ RRecs V2 vr (onlyRec k ro).recs) ?_ ?_)))))))
 refine dP (dM rfl rfl (lp (bI rfl rfl) rfl (aH (bH rfl (fun hc3 => ?_) (fun hc3 => ?_)))))
 refine aB (lp (aO rfl (aP bT (hs.g 0 rfl) hal)) rfl (aJ (o_bslice (vls := [rcs]) el_31 hs rfl rfl rfl rfl (by simpa using hal) (by decide) (by decide) rfl (fun b46 w hb46 he46 hs => ?_))))
 rw [show [rcs].flatten = rcs from List.append_nil _] at hs
 obtain ⟨V2, hle1, hbv, hs⟩ := hs.give hb46
 refine lp (aR fo_33_3 rfl) rfl (aJ (dQ 1 hs k_31 rfl rfl rfl rfl rfl rfl rfl (fun w hs => aH ?_)))
 have hk := num_eq0.1 hc3
 subst hk
 obtain ⟨x, rfl, hx⟩ := ha rfl
 exact ⟨V2, .slice (some ⟨b46, 0, none⟩) 1 1, aL rfl (aL rfl (aL rfl (aL rfl (bG _)))), hs, rcs, SlV.cells (sp := []) (by rw [List.append_nil]; exact hbv) hal (Nat.le_refl _), Rows.one (hx.mono hle1) hal⟩
 refine aW ?_
 exact ⟨V1, .slice none 0 0, aL rfl (aL rfl (aL rfl (aL rfl (bG _)))), hs, by rw [onlyRec_bad (fun h => hc3 (num_eq0.2 h))]; exact RRecs.nil _⟩
 clear hs
 rintro ρ w ⟨V2, vr, hsub, hs, hRA⟩
 refine EW.weaken hsub (aB (dM rfl rfl (lp (aR cV rfl) rfl (aJ (dQ 1 hs cH rfl rfl rfl rfl rfl rfl rfl (fun w hs => aH (dP (lp (aO rfl (aP bZ (hs.g 1 rfl) rfl)) rfl (aJ (dR 2 hs bZ rfl rfl rfl rfl hzl (seC_flat (f := k.num) rfl hRA.oneCell) rfl (fun w hs => aH (aV ⟨_, res1 ⟨_, rfl, aP bZ (hs.g 2 rfl) rfl⟩, ?_⟩))))))))))))
 exact ⟨V2, _, _, _, m', rfl, ((hs.drop hb8).drop hb7).drop hb6, partM_1 hm, hp', hwf', ⟨.slice none 0 0, vr, rfl, RAsks.nil V2, hRA⟩⟩
set_option maxHeartbeats 4000000 in
theorem c_mpart2 (hV : V.In w0) (hb : RB V mv l) (hown : w0.heap[bp]? = some (.cells cs.toArray E (0, 0))) (hvn : V bp = none) (hp : MR l mv m cs) (hwf : WF l m) (h2l : l.length ≤ 4294967296) (s : Nat) {sv : Int} (hsv : sv = (s : Int) - 1) (h1 : 1 ≤ s) (h2 : s ≤ 4) :
  CallsV Tryz.prog 35 #[.pointer (some ⟨bp, 0, none⟩), .int .i64 sv, .int .i64 2] w0 fun v w' => ∃ (V' : Vw) (cs' sc : List Value) (z : PSeen) (m' : PM), v = .agg sc.toArray ∧ St ⟨w0, V, V'⟩ w' [(bp, .cells cs'.toArray E (0, 0))] ∧ partM l m s 2 = (z, m') ∧ MR l mv m' cs' ∧ WF l m' ∧ RSeen V' z sc := by
 have hs := St.start1 hV hown (bU _ _) hvn
 refine aT [_, _, _] Tryz.func35 Tryz.ntmps35 Tryz.results35 rfl rfl (dP (aJ (aX hs z_33 rfl (fun b6 w hb6 he6 hs => ?_))))
 obtain ⟨zz, hzl, hs⟩ : ∃ zz : List Value, zz.length = 13 ∧ St ⟨w0, V, V⟩ w [(b6, .cells zz.toArray 33 (0, 0)), (bp, .cells cs.toArray E (0, 0))] := ⟨_, rfl, hs⟩
 refine aH (dP (lp (bM (vs := []) (ps := []) rfl bz_33) rfl (aJ (aX hs z_33 rfl (fun b7 w hb7 he7 hs => aJ (dR 0 hs bZ rfl rfl rfl (by simp) (by simp) (aG (by decide +kernel)) rfl (fun w hs => ?_)))))))
 replace hs : St ⟨w0, V, V⟩ _ [(b7, .cells (seC 0 (.slice none 0 0) (.slice none 0 0)).toArray 33 (0, 0)), (b6, .cells zz.toArray 33 (0, 0)), (bp, .cells cs.toArray E (0, 0))] := hs
 refine aH (aF (dP (dM rfl rfl (aH (bQ (aF (dP (lp (bI rfl rfl) rfl (dN rfl rfl (aH (aY rfl rfl (aB (lp (bI rfl rfl) rfl ?_)))))))))))))
 refine dN rfl rfl (aH (aY rfl rfl (dP (lp (bI rfl rfl) rfl (dN rfl rfl (aH (cO rfl rfl (bQ (dC (fun g : PM × Nat × List Value × List PRec × List Value × Value × Vw => (upd (upd (upd (upd emp 7 (.pointer (some ⟨b7, 0, none⟩))) 6 (.pointer (some ⟨b6, 0, none⟩))) 1 (.int .i64 sv)) 0 (.pointer (some ⟨bp, 0, none⟩)))) (fun g w' => Sl 72 16 ⟨w0, V, g.2.2.2.2.2.2⟩ w' [(b7, .cells (seC 0 (.slice none 0 0) g.2.2.2.2.2.1).toArray 33 (0, 0)), (b6, .cells zz.toArray 33 (0, 0)), (bp, .cells g.2.2.1.toArray E (0, 0))] g.2.2.2.2.2.1 g.2.2.2.1.length g.2.2.2.2.1 ∧ Rows 16 (RRec g.2.2.2.2.2.2) g.2.2.2.1 g.2.2.2.2.1 ∧ MR l mv g.1 g.2.2.1 ∧ WF l g.1 ∧ allRecs l s g.2.1 g.1 g.2.2.2.1 = allRecs l s fuel m [] ∧ 1 ≤ g.2.1 ∧ (g.1.sec = s → count l s - g.1.index < g.2.1) ∧ g.2.1 + g.2.2.2.1.length = fuel) (fun g => g.2.1) (m, fuel, cs, [], [], .slice none 0 0, V) (aL rfl (aL rfl (aL rfl (aL rfl (bG _))))) ⟨Sl.nil hs, rfl, hp, hwf, rfl, (by decide : 1 ≤ fuel), fun _ => by have := cW l s; show _ < 65537; omega, rfl⟩ ?_)))))))))
 clear hs hp hwf
 rintro ⟨mm, f, cc, acc, xs, sv, Vc⟩ w ⟨hsl, hrows, hp, hwf, heq, hf1, hf2, hf3⟩
 simp only at hsl hrows hp hwf heq hf1 hf2 hf3 ⊢
 have hfu : fuel = 65537 := rfl
 obtain ⟨f, rfl⟩ : ∃ f', f = f' + 1 := ⟨f - 1, by omega⟩
 have hle := hsl.st.view
 replace hb := hb.mono hle
 obtain ⟨sa, scap, rfl⟩ := hsl.size
 obtain ⟨X, hX, hs⟩ := hsl.open
 refine bQ (dP (dM rfl rfl (dM rfl rfl (aZ ok_101 rfl rfl (c_mrecord hs.isIn hb (hs.g 2 rfl) (hs.off (k := 2) rfl) hp hwf h2l s hsv h1 h2) rfl (fun v55 w HF => ?_)))))
 obtain ⟨V1, cs', rcs, k, ro, m', rfl, hc, hm, hp', hal, haf, ha⟩ := HF
 have hle1 := hc.view
 replace hs := hs.frame1 (k := 2) rfl rfl hc
 have hwf' := wf_recordM hwf h1 h2
 rw [hm] at hwf'
 rw [allRecs, hm] at heq
 refine dM rfl rfl (dO rfl rfl rfl (dO rfl rfl rfl (aJ (aX hs z_72 rfl (fun b10 w hb10 he10 hs => aJ (dR 0 hs bT rfl rfl rfl hal rfl haf rfl (fun w hs => dN rfl rfl (aH (aF (dP (dM rfl rfl (lp (bI rfl rfl) rfl (aH (bH rfl (fun hc3 => ?_) (fun hc3 => ?_)))))))))))))))
 refine dP (lp (aO rfl (aP bZ (hs.g 1 rfl) rfl)) rfl (aJ (dR 2 hs bZ rfl rfl rfl rfl hzl (seC_flat rfl rfl) rfl (fun w hs => aH (aV ⟨_, res1 ⟨_, rfl, aP bZ (hs.g 2 rfl) rfl⟩, ?_⟩)))))
 have hkd := num_eq2.1 hc3
 subst hkd
 replace hs := ((SlX.close (L := [_, _, _, _]) hX hs).drop hb10).drop hb7 |>.drop hb6
 obtain ⟨V', hle', hsv, hs⟩ := hs.give
 have hRA : RRecs V' (.slice sa acc.length scap) acc := ⟨xs, hsv, hrows.mono fun _ _ h => h.mono (Vw.le_trans hle1 hle')⟩
 exact ⟨V', _, _, _, m', rfl, hs, partM_2 heq.symm, hp', hwf', rseen_recs hRA⟩
 refine aW (aF (dP (dM rfl rfl (lp (po_neq rfl rfl) rfl (aH (bH rfl (fun hc4 => ?_) (fun hc4 => ?_)))))))
 refine dP (dM rfl rfl (lp (bL rfl (by rfl) (bu_33_0 _)) rfl (aJ (dR 2 hs bZ rfl rfl rfl rfl hzl (aG rfl) rfl (fun w hs => aH (aV ⟨_, res1 ⟨_, rfl, aP bZ (hs.g 2 rfl) rfl⟩, ?_⟩))))))
 have hall : allRecs l s fuel m [] = (k, [], m') := by
  rw [← heq]
  cases k <;> first | rfl | exact absurd rfl (num_bad hc4) | exact absurd rfl (fun h => hc3 (num_eq2.2 h))
 replace hs := (SlX.close (L := [_, _, _, _]) hX hs).st
 exact ⟨_, _, _, _, m', rfl, ((hs.drop hb10).drop hb7).drop hb6, partM_2 hall, hp', hwf', by rw [if_neg (num_bad hc4)]; exact RSeen.fault _ k⟩
 refine aW ?_
 obtain rfl := num_ok hc4
 obtain ⟨n1, n2, n3, n4⟩ := recordM_nxt hwf h1 h2 hm
 obtain ⟨x, rfl, hx⟩ := ha rfl
 refine aB (lp (aR fo_33_3 rfl) rfl (lp (aO rfl (aQ k_31 (hs.g 1 rfl) rfl)) rfl (lp (aO rfl (aP bT (hs.g 0 rfl) hal)) rfl (l_app1 (cl := rcs) el_31 (SlX.close (L := [_, _, _, _]) hX hs) (fun _ => rfl) rfl rfl hal haf (by omega) (by omega) (by omega) rfl rfl (fun b68 sv' w hs => ?_)))))
 have hone := hs.oneCell
 obtain ⟨X2, hX2, hs⟩ := (hs.drop hb10).open
 skip
 refine lp (aR fo_33_3 rfl) rfl (aJ (dQ 0 hs k_31 rfl rfl rfl hone rfl rfl rfl (fun w hs => aH ?_)))
 have hs' := SlX.close (L := [_, _, _]) hX2 hs
 exact ⟨(m', f, _, acc ++ [x], _, sv', _), aL rfl (aL rfl (aL rfl (aL rfl (bG _)))), ⟨by simp only [List.length_append]; exact hs', Rows.snoc (hrows.mono fun _ _ h => h.mono hle1) hx hal, hp', hwf', heq, by have := hf2 n1; simp only; omega, fun _ => by have := hf2 n1; simp only; omega, by simp; omega⟩, by simp only; omega⟩
set_option maxHeartbeats 4000000 in
theorem c_mpart3 (hV : V.In w0) (hb : RB V mv l) (hown : w0.heap[bp]? = some (.cells cs.toArray E (0, 0))) (hvn : V bp = none) (hp : MR l mv m cs) (hwf : WF l m) (h2l : l.length ≤ 4294967296) (s : Nat) {sv : Int} (hsv : sv = (s : Int) - 1) (h1 : 1 ≤ s) (h2 : s ≤ 4) :
  CallsV Tryz.prog 35 #[.pointer (some ⟨bp, 0, none⟩), .int .i64 sv, .int .i64 3] w0 fun v w' => ∃ (V' : Vw) (cs' sc : List Value) (z : PSeen) (m' : PM), v = .agg sc.toArray ∧ St ⟨w0, V, V'⟩ w' [(bp, .cells cs'.toArray E (0, 0))] ∧ partM l m s 3 = (z, m') ∧ MR l mv m' cs' ∧ WF l m' ∧ RSeen V' z sc := by
 have hs := St.start1 hV hown (bU _ _) hvn
 refine aT [_, _, _] Tryz.func35 Tryz.ntmps35 Tryz.results35 rfl rfl (dP (aJ (aX hs z_33 rfl (fun b6 w hb6 he6 hs => ?_))))
 obtain ⟨zz, hzl, hs⟩ : ∃ zz : List Value, zz.length = 13 ∧ St ⟨w0, V, V⟩ w [(b6, .cells zz.toArray 33 (0, 0)), (bp, .cells cs.toArray E (0, 0))] := ⟨_, rfl, hs⟩
 refine aH (dP (lp (bM (vs := []) (ps := []) rfl bz_33) rfl (aJ (aX hs z_33 rfl (fun b7 w hb7 he7 hs => aJ (dR 0 hs bZ rfl rfl rfl (by simp) (by simp) (aG (by decide +kernel)) rfl (fun w hs => ?_)))))))
 replace hs : St ⟨w0, V, V⟩ _ [(b7, .cells (seC 0 (.slice none 0 0) (.slice none 0 0)).toArray 33 (0, 0)), (b6, .cells zz.toArray 33 (0, 0)), (bp, .cells cs.toArray E (0, 0))] := hs
 refine aH (aF (dP (dM rfl rfl (aH (bQ (aF (dP (lp (bI rfl rfl) rfl (dN rfl rfl (aH (aY rfl rfl (aB (lp (bI rfl rfl) rfl ?_)))))))))))))
 refine dN rfl rfl (aH (aY rfl rfl (dP (lp (bI rfl rfl) rfl (dN rfl rfl (aH (aY rfl rfl (dP (lp (bI rfl rfl) rfl (dN rfl rfl (aH (cO rfl rfl (aB ?_)))))))))))))
 refine dM rfl rfl (dM rfl rfl (aZ ok_102 rfl rfl (c_mpass hs.isIn hb (hs.g 2 rfl) (hs.off (k := 2) rfl) hp hwf h2l s hsv h1 h2) rfl (fun v75 w HF => ?_)))
 obtain ⟨cs', k, m', rfl, hc, hm, hp'⟩ := HF
 replace hs := hs.frame1 (k := 2) rfl rfl hc
 have hwf' := wf_passM hwf h1 h2
 rw [hm] at hwf'
 refine lp (aR cV rfl) rfl (aJ (dQ 0 hs cH rfl rfl rfl rfl rfl rfl rfl (fun w hs => aH (dP (lp (aO rfl (aP bZ (hs.g 0 rfl) rfl)) rfl (aJ (dR 1 hs bZ rfl rfl rfl rfl hzl (seC_flat (f := k.num) rfl rfl) rfl (fun w hs => aH (aV ⟨_, res1 ⟨_, rfl, aP bZ (hs.g 1 rfl) rfl⟩, ?_⟩)))))))))
 exact ⟨V, _, _, _, m', rfl, (hs.drop hb7).drop hb6, partM_3 hm, hp', hwf', RSeen.fault V k⟩
set_option maxHeartbeats 4000000 in
theorem c_mpart4 (hV : V.In w0) (hb : RB V mv l) (hown : w0.heap[bp]? = some (.cells cs.toArray E (0, 0))) (hvn : V bp = none) (hp : MR l mv m cs) (hwf : WF l m) (h2l : l.length ≤ 4294967296) (s : Nat) {sv : Int} (hsv : sv = (s : Int) - 1) (h1 : 1 ≤ s) (h2 : s ≤ 4) :
  CallsV Tryz.prog 35 #[.pointer (some ⟨bp, 0, none⟩), .int .i64 sv, .int .i64 4] w0 fun v w' => ∃ (V' : Vw) (cs' sc : List Value) (z : PSeen) (m' : PM), v = .agg sc.toArray ∧ St ⟨w0, V, V'⟩ w' [(bp, .cells cs'.toArray E (0, 0))] ∧ partM l m s 4 = (z, m') ∧ MR l mv m' cs' ∧ WF l m' ∧ RSeen V' z sc := by
 have hs := St.start1 hV hown (bU _ _) hvn
 refine aT [_, _, _] Tryz.func35 Tryz.ntmps35 Tryz.results35 rfl rfl (dP (aJ (aX hs z_33 rfl (fun b6 w hb6 he6 hs => ?_))))
 obtain ⟨zz, hzl, hs⟩ : ∃ zz : List Value, zz.length = 13 ∧ St ⟨w0, V, V⟩ w [(b6, .cells zz.toArray 33 (0, 0)), (bp, .cells cs.toArray E (0, 0))] := ⟨_, rfl, hs⟩
 refine aH (dP (lp (bM (vs := []) (ps := []) rfl bz_33) rfl (aJ (aX hs z_33 rfl (fun b7 w hb7 he7 hs => aJ (dR 0 hs bZ rfl rfl rfl (by simp) (by simp) (aG (by decide +kernel)) rfl (fun w hs => ?_)))))))
 replace hs : St ⟨w0, V, V⟩ _ [(b7, .cells (seC 0 (.slice none 0 0) (.slice none 0 0)).toArray 33 (0, 0)), (b6, .cells zz.toArray 33 (0, 0)), (bp, .cells cs.toArray E (0, 0))] := hs
 refine aH (aF (dP (dM rfl rfl (aH (bQ (aF (dP (lp (bI rfl rfl) rfl (dN rfl rfl (aH (aY rfl rfl (aB (lp (bI rfl rfl) rfl ?_)))))))))))))
 refine dN rfl rfl (aH (aY rfl rfl (dP (lp (bI rfl rfl) rfl (dN rfl rfl (aH (aY rfl rfl (dP (lp (bI rfl rfl) rfl (dN rfl rfl (aH (aY rfl rfl (aF ?_)))))))))))))
 refine bQ (dC (fun _ : PM × Nat × List Value × EK => (upd (upd (upd (upd emp 7 (.pointer (some ⟨b7, 0, none⟩))) 6 (.pointer (some ⟨b6, 0, none⟩))) 1 (.int .i64 sv)) 0 (.pointer (some ⟨bp, 0, none⟩)))) (fun g w' => St ⟨w0, V, V⟩ w' [(b7, .cells (seC g.2.2.2.num (.slice none 0 0) (.slice none 0 0)).toArray 33 (0, 0)), (b6, .cells zz.toArray 33 (0, 0)), (bp, .cells g.2.2.1.toArray E (0, 0))] ∧ MR l mv g.1 g.2.2.1 ∧ WF l g.1 ∧ (g.2.2.2 = .ok → allPass l s g.2.1 g.1 = allPass l s fuel m ∧ 1 ≤ g.2.1 ∧ (g.1.sec = s → count l s - g.1.index < g.2.1)) ∧ (g.2.2.2 ≠ .ok → allPass l s fuel m = (if g.2.2.2 = .done then .ok else g.2.2.2, g.1))) (fun g => if g.2.2.2 = .ok then g.2.1 else 0) (m, fuel, cs, .ok) (aL rfl (aL rfl (aL rfl (aL rfl (bG _))))) ⟨hs, hp, hwf, fun _ => ⟨rfl, (by decide : 1 ≤ fuel), fun _ => by have := cW l s; show _ < 65537; omega⟩, fun h => absurd rfl h⟩ ?_)
 clear hs hp hwf
 rintro ⟨mm, f, cc, k0⟩ w ⟨hs, hp, hwf, hok, hno⟩
 simp only at hs hp hwf hok hno ⊢
 refine aF (dP (lp (aR cV rfl) rfl (lp (aO rfl (aQ cH (hs.g 0 rfl) rfl)) rfl (lp (bI rfl rfl) rfl (aH (bH rfl (fun hc4 => ?_) (fun hc4 => ?_)))))))
 refine aW (bQ ?_)
 have hk0 := num_eq0.1 hc4
 subst hk0
 obtain ⟨heq, hf1, hf2⟩ := hok rfl
 obtain ⟨f, rfl⟩ : ∃ f', f = f' + 1 := ⟨f - 1, by omega⟩
 refine aB (dM rfl rfl (dM rfl rfl (aZ ok_102 rfl rfl (c_mpass hs.isIn hb (hs.g 2 rfl) (hs.off (k := 2) rfl) hp hwf h2l s hsv h1 h2) rfl (fun v19 w HF => ?_))))
 obtain ⟨cs', k, m', rfl, hc, hm, hp'⟩ := HF
 replace hs := hs.frame1 (k := 2) rfl rfl hc
 have hwf' := wf_passM hwf h1 h2
 rw [hm] at hwf'
 rw [allPass, hm] at heq
 refine lp (aR cV rfl) rfl (aJ (dQ 0 hs cH rfl rfl rfl rfl rfl rfl rfl (fun w hs => aH ⟨(m', f, cs', k), aL rfl (aL rfl (aL rfl (aL rfl (bG _)))), ⟨hs, hp', hwf', fun h => ?_, fun h => ?_⟩, ?_⟩)))
 simp only at h; subst h
 obtain ⟨n1, n2, n3, n4⟩ := passM_nxt hwf h1 h2 hm
 exact ⟨heq, by have := hf2 n1; simp only; omega, fun _ => by have := hf2 n1; simp only; omega⟩
 simp only at h ⊢
 rw [← heq]
 cases k <;> first | rfl | exact absurd rfl h
 simp only; rw [if_pos trivial]; split <;> omega
 refine e_exit (aF ?_)
 have hk0 : k0 ≠ .ok := fun h => hc4 (num_eq0.2 h)
 have hall := hno hk0
 refine aB (lp (aR cV rfl) rfl (lp (aO rfl (aQ cH (hs.g 0 rfl) rfl)) rfl (lp (bI rfl rfl) rfl (aH (bH rfl (fun hc5 => ?_) (fun hc5 => ?_))))))
 have hk2 := num_eq2.1 hc5
 subst hk2
 rw [if_pos rfl] at hall
 refine aB (lp (aR cV rfl) rfl (aJ (dQ 0 hs cH rfl rfl rfl rfl rfl rfl rfl (fun w hs => aH (dP (lp (aO rfl (aP bZ (hs.g 0 rfl) rfl)) rfl (aJ (dR 1 hs bZ rfl rfl rfl rfl hzl (aG rfl) rfl (fun w hs => aH (aV ⟨_, res1 ⟨_, rfl, aP bZ (hs.g 1 rfl) rfl⟩, ?_⟩))))))))))
 exact ⟨V, _, _, _, mm, rfl, (hs.drop hb7).drop hb6, partM_4 hall, hp, hwf, RSeen.fault V .ok⟩
 refine aW (dP (lp (aO rfl (aP bZ (hs.g 0 rfl) rfl)) rfl (aJ (dR 1 hs bZ rfl rfl rfl rfl hzl (aG rfl) rfl (fun w hs => aH (aV ⟨_, res1 ⟨_, rfl, aP bZ (hs.g 1 rfl) rfl⟩, ?_⟩))))))
 rw [if_neg (fun h => hc5 (num_eq2.2 h))] at hall
 exact ⟨V, _, _, _, mm, rfl, (hs.drop hb7).drop hb6, partM_4 hall, hp, hwf, RSeen.fault V k0⟩
end
end Go.Proofs.YtmigokakpahgkaaGreatDoor
namespace Go.Proofs.YtmigokakpahgkaaGreatDoor
open Go
section
variable {l : List UInt8} {m k : PM}
theorem stepM_part {q : Nat} (h1 : 6 ≤ q) (h2 : q ≤ 20) : stepM l m k (q : Int) = ((partM l m (2 + (q - 6) / 5) ((q - 6) % 5)).1, (partM l m (2 + (q - 6) / 5) ((q - 6) % 5)).2, k) := by
 unfold stepM; rw [if_neg (by omega), if_neg (by omega), if_pos (by omega), Int.toNat_natCast]
theorem MR.zero (l : List UInt8) (mv : Value) : MR l mv {} (macC (.slice none 0 0) 0 0 0 0 {} {}) := ⟨_, _, _, _, _, _, rfl, rfl, fun h => absurd h (by decide)⟩
end
section
variable {V : Vw} {w0 : World} {l : List UInt8} {mv : Value} {bp : Nat} {E : TypeId} {m : PM} {cs : List Value}
theorem c_mquestion (hV : V.In w0) (hb : RB V mv l) (hown : w0.heap[bp]? = some (.cells cs.toArray E (0, 0))) (hvn : V bp = none) (hp : MR l mv m cs) (hwf : WF l m) (h2l : l.length ≤ 4294967296) (st : Nat) {sv : Int} (hsv : sv = st) (h2 : 2 ≤ st) (h5 : st ≤ 5) :
  CallsV Tryz.prog 34 #[.pointer (some ⟨bp, 0, none⟩), .int .i64 sv] w0 fun v w' => ∃ (V' : Vw) (cs' sc : List Value) (s : PSeen) (m' : PM), v = .agg sc.toArray ∧ St ⟨w0, V, V'⟩ w' [(bp, .cells cs'.toArray E (0, 0))] ∧ questionM l m st = (s, m') ∧ MR l mv m' cs' ∧ WF l m' ∧ RSeen V' s sc := by
 subst hsv
 rcases (by omega : st = 2 ∨ st = 3 ∨ st = 4 ∨ st = 5) with rfl | rfl | rfl | rfl
 exact c_mquestion2 hV hb hown hvn hp hwf h2l
 exact c_mquestion3 hV hb hown hvn hp hwf h2l
 exact c_mquestion4 hV hb hown hvn hp hwf h2l
 exact c_mquestion5 hV hb hown hvn hp hwf h2l
theorem c_mpart (hV : V.In w0) (hb : RB V mv l) (hown : w0.heap[bp]? = some (.cells cs.toArray E (0, 0))) (hvn : V bp = none) (hp : MR l mv m cs) (hwf : WF l m) (h2l : l.length ≤ 4294967296) (s : Nat) {sv : Int} (hsv : sv = (s : Int) - 1) (h1 : 1 ≤ s) (h2 : s ≤ 4) (st : Nat) {tv : Int} (htv : tv = st) (h4 : st ≤ 4) :
  CallsV Tryz.prog 35 #[.pointer (some ⟨bp, 0, none⟩), .int .i64 sv, .int .i64 tv] w0 fun v w' => ∃ (V' : Vw) (cs' sc : List Value) (z : PSeen) (m' : PM), v = .agg sc.toArray ∧ St ⟨w0, V, V'⟩ w' [(bp, .cells cs'.toArray E (0, 0))] ∧ partM l m s st = (z, m') ∧ MR l mv m' cs' ∧ WF l m' ∧ RSeen V' z sc := by
 subst htv
 rcases (by omega : st = 0 ∨ st = 1 ∨ st = 2 ∨ st = 3 ∨ st = 4) with rfl | rfl | rfl | rfl | rfl
 exact c_mpart0 hV hb hown hvn hp hwf h2l s hsv h1 h2
 exact c_mpart1 hV hb hown hvn hp hwf h2l s hsv h1 h2
 exact c_mpart2 hV hb hown hvn hp hwf h2l s hsv h1 h2
 exact c_mpart3 hV hb hown hvn hp hwf h2l s hsv h1 h2
 exact c_mpart4 hV hb hown hvn hp hwf h2l s hsv h1 h2
theorem c_Begin (hV : V.In w0) : CallsV Tryz.prog 32 #[] w0 fun v w' => v = .agg (macC (.slice none 0 0) 0 0 0 0 {} {}).toArray ∧ St ⟨w0, V, V⟩ w' [] := by
 have hs := St.start hV
 refine aT [] Tryz.func32 Tryz.ntmps32 Tryz.results32 rfl rfl (dP (aJ (aX hs z_76 rfl (fun b0 w hb0 he0 hs => aH (dP (lp (bL rfl (by rfl) (bu_76_2 _)) rfl (aJ (dR 0 hs k_76 rfl rfl rfl (by simp) (by simp) (aG (by decide +kernel)) rfl (fun w hs => aH (aV ⟨_, res1 ⟨_, rfl, aP k_76 (hs.g 0 rfl) rfl⟩, ?_⟩))))))))))
 exact ⟨rfl, hs.drop hb0⟩
end
def qE (b5 b6 : Nat) (mv stv sv : Value) (n j : Nat) : Env :=
 upd (upd (upd (upd (upd (upd (upd emp 16 (.int .i64 j)) 15 (.int .i64 n)) 14 stv) 7 sv) 6 (.pointer (some ⟨b6, 0, none⟩))) 5 (.pointer (some ⟨b5, 0, none⟩))) 0 mv
theorem qE_sub {b5 b6 : Nat} {mv stv sv : Value} {n j : Nat} {ρ : Env} (h0 : ρ 0 = some mv) (h5 : ρ 5 = some (.pointer (some ⟨b5, 0, none⟩))) (h6 : ρ 6 = some (.pointer (some ⟨b6, 0, none⟩))) (h7 : ρ 7 = some sv) (h16 : ρ 14 = some stv)
  (h17 : ρ 15 = some (.int .i64 n)) (h18 : ρ 16 = some (.int .i64 j)) : Sub (qE b5 b6 mv stv sv n j) ρ :=
 aL h0 (aL h5 (aL h6 (aL h7 (aL h16 (aL h17 (aL h18 (bG _)))))))
def qI (b5 b6 : Nat) (mv stv sv : Value) (n j : Nat) (st : Int) (b10 : Nat) : Env := upd (upd (qE b5 b6 mv stv sv n j) 9 (.int .i64 st)) 10 (.pointer (some ⟨b10, 0, none⟩))
theorem qI_sub {b5 b6 : Nat} {mv stv sv : Value} {n j b10 : Nat} {st : Int} {ρ : Env} (h10 : ρ 10 = some (.pointer (some ⟨b10, 0, none⟩))) (h9 : ρ 9 = some (.int .i64 st)) (h0 : ρ 0 = some mv) (h5 : ρ 5 = some (.pointer (some ⟨b5, 0, none⟩))) (h6 : ρ 6 = some (.pointer (some ⟨b6, 0, none⟩))) (h7 : ρ 7 = some sv) (h16 : ρ 14 = some stv)
  (h17 : ρ 15 = some (.int .i64 n)) (h18 : ρ 16 = some (.int .i64 j)) : Sub (qI b5 b6 mv stv sv n j st b10) ρ :=
 aL h10 (aL h9 (qE_sub h0 h5 h6 h7 h16 h17 h18))
section
variable {V : Vw} {w0 : World} {l : List UInt8} {mv : Value}
set_option maxHeartbeats 4000000 in
theorem c_sparse (hV : V.In w0) (hb : RB V mv l) (h2l : l.length ≤ 4294967296) {stv : Value} {steps : List Int} (hst : SlV V 1 stv steps.length (steps.map fun i => .int .i64 i)) (hsn : steps.length ≤ 4294967296) :
  CallsV Tryz.prog 17 #[mv, stv] w0 fun v w' => ∃ V' : Vw, St ⟨w0, V, V'⟩ w' [] ∧ RSeens V' v (parseM l steps) := by
 obtain ⟨a, cap, rfl, hcap, ha⟩ := hst.form
 have hmv := hb.oneCell
 have hs := St.start hV
 refine aT [_, _] Tryz.func17 Tryz.ntmps17 Tryz.results17 rfl rfl (dP (dN rfl rfl (aH (dP (aZ ok_32 rfl rfl (c_Begin hs.isIn) rfl (fun v11 w HF => ?_))))))
 obtain ⟨rfl, hc⟩ := HF
 replace hs := hs.frame hc
 refine aJ (aX hs z_76 rfl (fun b5 w hb5 he5 hs => aJ (dR 0 hs k_76 rfl rfl rfl (by rfl) (by simp) (aG (by decide +kernel)) rfl (fun w hs => aH (dP (lp (aO rfl (aP k_76 (hs.g 0 rfl) rfl)) rfl (aJ (aX hs z_76 rfl (fun b6 w hb6 he6 hs => aJ (dR 0 hs k_76 rfl rfl rfl rfl rfl (aG rfl) rfl (fun w hs => ?_)))))))))))
 obtain ⟨ks, cs, hk0, hc0, hs⟩ : ∃ ks cs : List Value, MR l mv {} ks ∧ MR l mv {} cs ∧ St ⟨w0, V, V⟩ w [(b6, .cells ks.toArray 76 (0, 0)), (b5, .cells cs.toArray 76 (0, 0))] := ⟨_, _, MR.zero l mv, MR.zero l mv, hs⟩
 refine aH (dP (aJ (o_bslice0 es_25 hs rfl (fun b15 w hb15 he15 hs => ?_))))
 have hsl : Sl 33 13 ⟨w0, V, V⟩ w [(b6, .cells ks.toArray 76 (0, 0)), (b5, .cells cs.toArray 76 (0, 0))] (.slice (some ⟨b15, 0, none⟩) 0 0) 0 [] := ⟨rfl, .inr ⟨b15, 0, [], rfl, rfl, by omega, by decide, hb15, hs⟩⟩
 refine dN rfl rfl (aH (aF (dP (dM rfl rfl (lp (bC Tryz.underlying24 rfl) rfl (dM rfl rfl (aH (bQ (dC (fun g : Nat × PM × PM × List Value × List Value × List Value × Value × Vw => qE b5 b6 mv (.slice a steps.length cap) g.2.2.2.2.2.2.1 steps.length g.1) (fun g w' => Sl 33 13 ⟨w0, V, g.2.2.2.2.2.2.2⟩ w' [(b6, .cells g.2.2.2.2.1.toArray 76 (0, 0)), (b5, .cells g.2.2.2.1.toArray 76 (0, 0))] g.2.2.2.2.2.2.1 g.1 g.2.2.2.2.2.1 ∧ Rows 13 (RSeen g.2.2.2.2.2.2.2) (runM l {} {} (steps.take g.1)) g.2.2.2.2.2.1 ∧ MR l mv g.2.1 g.2.2.2.1 ∧ MR l mv g.2.2.1 g.2.2.2.2.1 ∧ WF l g.2.1 ∧ WF l g.2.2.1 ∧ endM l {} {} (steps.take g.1) = (g.2.1, g.2.2.1) ∧ g.1 ≤ steps.length) (fun g => steps.length - g.1) (0, {}, {}, cs, ks, [], .slice (some ⟨b15, 0, none⟩) 0 0, V) (qE_sub rfl rfl rfl rfl rfl rfl rfl) ⟨hsl, rfl, hc0, hk0, wf_init l, wf_init l, rfl, Nat.zero_le _⟩ ?_)))))))))
 clear hsl hs hk0 hc0
 rintro ⟨j, m, kept, cs, ks, ys, sv, Vc⟩ w ⟨hsl, hrows, hp, hpk, hwf, hwfk, hend, hj⟩
 simp only at hsl hrows hp hpk hwf hwfk hend hj ⊢
 have hle := hsl.st.view
 refine dP (lp (cY rfl rfl) rfl (aH (aF (bH rfl (fun hc0 => ?_) (fun hc0 => ?_)))))
 obtain ⟨b, p, rfl, hc⟩ := ha (by omega)
 have hjl : j < steps.length := by omega
 obtain ⟨st, hstj⟩ : ∃ st, steps[j]? = some st := ⟨_, List.getElem?_eq_getElem hjl⟩
 replace hb := hb.mono hle
 obtain ⟨X, hX, hs⟩ := hsl.open
 refine aW (aF (bQ (dP (lp (po_iaN j (p + j * 1) es_24 rfl rfl rfl hjl rfl) rfl (lp (aO rfl (bR (v := .int .i64 st) cH (by rw [Nat.mul_one]; exact Vw.cell_in hs.isIn (Vw.cell_le hle (hc _ _ (by simp [hstj])))))) rfl (dN rfl rfl (aH (dP (lp (bM (vs := []) (ps := []) rfl bz_33) rfl (aJ (aX hs z_33 rfl (fun b10 w hb10 he10 hs => aJ (dR 0 hs bZ rfl rfl rfl (by simp) (by simp) (aG (by decide +kernel)) rfl (fun w hs => ?_))))))))))))))
 obtain ⟨sz, hsz, hszl, hs⟩ : ∃ sz : List Value, seC 0 (.slice none 0 0) (.slice none 0 0) = sz ∧ sz.length = 13 ∧ St ⟨w0, V, Vc⟩ w ([(b10, .cells sz.toArray 33 (0, 0)), (b6, .cells ks.toArray 76 (0, 0)), (b5, .cells cs.toArray 76 (0, 0))] ++ X) := ⟨_, rfl, rfl, hs⟩
 refine aH (dG (fun ρ w => ∃ (b10 : Nat) (V' : Vw) (cs' ks' sc : List Value) (s : PSeen) (m' kept' : PM), w0.heap.size ≤ b10 ∧ Sub (qI b5 b6 mv (.slice (some ⟨b, p, none⟩) steps.length cap) sv steps.length j st b10) ρ ∧ Vc.le V' ∧ St ⟨w0, V, V'⟩ w ([(b10, .cells sc.toArray 33 (0, 0)), (b6, .cells ks'.toArray 76 (0, 0)), (b5, .cells cs'.toArray 76 (0, 0))] ++ X) ∧ stepM l m kept st = (s, m', kept') ∧ MR l mv m' cs' ∧ MR l mv kept' ks' ∧ WF l m' ∧ WF l kept' ∧ RSeen V' s sc) ?_ ?_)
 refine bQ (dP (dM rfl rfl (lp (bI rfl rfl) rfl (dN rfl rfl (aH (bH rfl (fun hc1 => ?_) (fun hc1 => ?_)))))))
 subst hc1
 refine aB (dM rfl rfl (aZ ok_33 rfl rfl (c_mstart hs.isIn hb (hs.g 2 rfl) (hs.off (k := 2) rfl) hp h2l) rfl (fun v26 w HF => ?_)))
 obtain ⟨cs', sc, s, m', rfl, hc2, hm, hp, hwf', hRS⟩ := HF
 replace hs := hs.frame1 (k := 2) rfl rfl hc2
 refine aJ (dR 0 hs bZ rfl rfl rfl hRS.flat.2 hszl hRS.flat.1 rfl (fun w hs => aH ?_))
 exact ⟨b10, Vc, cs', ks, sc, _, m', kept, hb10, qI_sub rfl rfl rfl rfl rfl rfl rfl rfl rfl, Vc.le_refl, hs, by rw [stepM_1, hm], hp, hpk, hwf', hwfk, hRS⟩
 refine dG (fun ρ w => Sub (upd (qI b5 b6 mv (.slice (some ⟨b, p, none⟩) steps.length cap) sv steps.length j st b10) 27 (.bool (decide (2 ≤ st ∧ st ≤ 5)))) ρ ∧ St ⟨w0, V, Vc⟩ w ([(b10, .cells sz.toArray 33 (0, 0)), (b6, .cells ks.toArray 76 (0, 0)), (b5, .cells cs.toArray 76 (0, 0))] ++ X)) ?_ ?_
 cases hg : decide (2 ≤ st)
 refine aB (dM rfl rfl (lp (po_geq rfl rfl) rfl (dM rfl rfl (aU rfl rfl hg rfl (aU rfl rfl hg rfl (lp (bW rfl (by assumption) rfl) rfl (dN rfl rfl (aH ?_))))))))
 have hval : (false : Bool) = decide (2 ≤ st ∧ st ≤ 5) := by symm; apply decide_eq_false; have := of_decide_eq_false hg; omega
 exact ⟨aL (congrArg (fun t => some (Value.bool t)) hval) (qI_sub rfl rfl rfl rfl rfl rfl rfl rfl rfl), hs⟩
 refine aB (dM rfl rfl (lp (po_geq rfl rfl) rfl (dM rfl rfl (lg rfl rfl hg (aC rfl) rfl (lg rfl rfl hg (po_leq rfl rfl) rfl (lp (bO rfl (by assumption) rfl) rfl (dN rfl rfl (aH ?_))))))))
 have hval : decide (st ≤ 5) = decide (2 ≤ st ∧ st ≤ 5) := by have := of_decide_eq_true hg; apply decide_eq_decide.2; omega
 exact ⟨aL (congrArg (fun t => some (Value.bool t)) hval) (qI_sub rfl rfl rfl rfl rfl rfl rfl rfl rfl), hs⟩
 clear hs
 rintro ρ w ⟨hsub, hs⟩
 refine EW.weaken hsub (bH rfl (fun hc2 => ?_) (fun hc2 => ?_))
 refine aB (dM rfl rfl (aZ ok_34 rfl rfl (c_mquestion hs.isIn hb (hs.g 2 rfl) (hs.off (k := 2) rfl) hp hwf h2l st.toNat (by omega) (by omega) (by omega)) rfl (fun v35 w HF => ?_)))
 obtain ⟨V1, cs', sc, s, m', rfl, hcq, hm, hp, hwf', hRS⟩ := HF
 have hle1 := hcq.view
 replace hs := hs.frame1 (k := 2) rfl rfl hcq
 refine aJ (dR 0 hs bZ rfl rfl rfl hRS.flat.2 hszl hRS.flat.1 rfl (fun w hs => aH ?_))
 exact ⟨b10, V1, cs', ks, sc, _, m', kept, hb10, qI_sub rfl rfl rfl rfl rfl rfl rfl rfl rfl, hle1, hs, by rw [stepM_q hc2.1 hc2.2, hm], hp, hpk, hwf', hwfk, hRS⟩
 refine dG (fun ρ w => Sub (upd (qI b5 b6 mv (.slice (some ⟨b, p, none⟩) steps.length cap) sv steps.length j st b10) 36 (.bool (decide (6 ≤ st ∧ st ≤ 20)))) ρ ∧ St ⟨w0, V, Vc⟩ w ([(b10, .cells sz.toArray 33 (0, 0)), (b6, .cells ks.toArray 76 (0, 0)), (b5, .cells cs.toArray 76 (0, 0))] ++ X)) ?_ ?_
 cases hg : decide (6 ≤ st)
 refine aB (dM rfl rfl (lp (po_geq rfl rfl) rfl (dM rfl rfl (aU rfl rfl hg rfl (aU rfl rfl hg rfl (lp (bW rfl (by assumption) rfl) rfl (dN rfl rfl (aH ?_))))))))
 have hval : (false : Bool) = decide (6 ≤ st ∧ st ≤ 20) := by symm; apply decide_eq_false; have := of_decide_eq_false hg; omega
 exact ⟨aL (congrArg (fun t => some (Value.bool t)) hval) (qI_sub rfl rfl rfl rfl rfl rfl rfl rfl rfl), hs⟩
 refine aB (dM rfl rfl (lp (po_geq rfl rfl) rfl (dM rfl rfl (lg rfl rfl hg (aC rfl) rfl (lg rfl rfl hg (po_leq rfl rfl) rfl (lp (bO rfl (by assumption) rfl) rfl (dN rfl rfl (aH ?_))))))))
 have hval : decide (st ≤ 20) = decide (6 ≤ st ∧ st ≤ 20) := by have := of_decide_eq_true hg; apply decide_eq_decide.2; omega
 exact ⟨aL (congrArg (fun t => some (Value.bool t)) hval) (qI_sub rfl rfl rfl rfl rfl rfl rfl rfl rfl), hs⟩
 clear hs
 rintro ρ w ⟨hsub, hs⟩
 refine EW.weaken hsub (bH rfl (fun hc3 => ?_) (fun hc3 => ?_))
 obtain ⟨q, rfl⟩ : ∃ q : Nat, st = q := ⟨st.toNat, by omega⟩
 refine aB (dM rfl rfl (lp (po_sub rfl rfl (i64c (c := q - 6) (by omega) (by omega))) rfl (lp (po_quo rfl rfl (by decide) (i64c (c := (q - 6) / 5) (by rw [show (5 : Int) = ((5 : Nat) : Int) from rfl, ← Int.ofNat_tdiv]) (by omega))) rfl (lp (bN rfl rfl (i64c (c := 1 + (q - 6) / 5) (by omega) (by omega))) rfl (dM rfl rfl (lp (po_sub rfl rfl (i64c (c := q - 6) (by omega) (by omega))) rfl (lp (po_rem (c := ((q - 6) % 5 : Nat)) rfl rfl (by decide) (by rw [show (5 : Int) = ((5 : Nat) : Int) from rfl, ← Int.ofNat_tmod])) rfl (aZ ok_35 rfl rfl (c_mpart hs.isIn hb (hs.g 2 rfl) (hs.off (k := 2) rfl) hp hwf h2l (2 + (q - 6) / 5) (by omega) (by omega) (by omega) ((q - 6) % 5) rfl (by omega)) rfl (fun v50 w HF => ?_)))))))))
 obtain ⟨V1, cs', sc, s, m', rfl, hc2', hm, hp, hwf', hRS⟩ := HF
 have hc2 := hc2'
 have hle1 := hc2.view
 replace hs := hs.frame1 (k := 2) rfl rfl hc2
 refine aJ (dR 0 hs bZ rfl rfl rfl hRS.flat.2 hszl hRS.flat.1 rfl (fun w hs => aH ?_))
 exact ⟨b10, V1, cs', ks, sc, _, m', kept, hb10, qI_sub rfl rfl rfl rfl rfl rfl rfl rfl rfl, hle1, hs, by rw [stepM_part (by omega) (by omega), hm], hp, hpk, hwf', hwfk, hRS⟩
 refine dG (fun ρ w => Sub (upd (qI b5 b6 mv (.slice (some ⟨b, p, none⟩) steps.length cap) sv steps.length j st b10) 51 (.bool (decide (20 < st ∧ st ≤ 33)))) ρ ∧ St ⟨w0, V, Vc⟩ w ([(b10, .cells sz.toArray 33 (0, 0)), (b6, .cells ks.toArray 76 (0, 0)), (b5, .cells cs.toArray 76 (0, 0))] ++ X)) ?_ ?_
 cases hg : decide (20 < st)
 refine aB (dM rfl rfl (lp (cQ rfl rfl) rfl (dM rfl rfl (aU rfl rfl hg rfl (aU rfl rfl hg rfl (lp (bW rfl (by assumption) rfl) rfl (dN rfl rfl (aH ?_))))))))
 have hval : (false : Bool) = decide (20 < st ∧ st ≤ 33) := by symm; apply decide_eq_false; have := of_decide_eq_false hg; omega
 exact ⟨aL (congrArg (fun t => some (Value.bool t)) hval) (qI_sub rfl rfl rfl rfl rfl rfl rfl rfl rfl), hs⟩
 refine aB (dM rfl rfl (lp (cQ rfl rfl) rfl (dM rfl rfl (lg rfl rfl hg (aC rfl) rfl (lg rfl rfl hg (po_leq rfl rfl) rfl (lp (bO rfl (by assumption) rfl) rfl (dN rfl rfl (aH ?_))))))))
 have hval : decide (st ≤ 33) = decide (20 < st ∧ st ≤ 33) := by have := of_decide_eq_true hg; apply decide_eq_decide.2; omega
 exact ⟨aL (congrArg (fun t => some (Value.bool t)) hval) (qI_sub rfl rfl rfl rfl rfl rfl rfl rfl rfl), hs⟩
 clear hs
 rintro ρ w ⟨hsub, hs⟩
 refine EW.weaken hsub (bH rfl (fun hc4 => ?_) (fun hc4 => ?_))
 refine aB (dM rfl rfl (lp (po_sub rfl rfl (i64w (by omega))) rfl (aZ ok_36 rfl rfl (c_mbody hs.isIn hb (hs.g 2 rfl) (hs.off (k := 2) rfl) hp hwf h2l (st.toNat - 20) (by omega) (by omega) (by omega)) rfl (fun v60 w HF => ?_))))
 obtain ⟨V1, cs', sc, k, ro, m', rfl, hc2', hm, hp, hwf', hRS⟩ := HF
 have hc2 := hc2'
 have hle1 := hc2.view
 replace hs := hs.frame1 (k := 2) rfl rfl hc2
 refine aJ (dR 0 hs bZ rfl rfl rfl hRS.flat.2 hszl hRS.flat.1 rfl (fun w hs => aH ?_))
 exact ⟨b10, V1, cs', ks, sc, _, m', kept, hb10, qI_sub rfl rfl rfl rfl rfl rfl rfl rfl rfl, hle1, hs, by rw [stepM_b hc4.1 hc4.2, hm], hp, hpk, hwf', hwfk, hRS⟩
 refine dP (dM rfl rfl (lp (bI rfl rfl) rfl (dN rfl rfl (aH (bH rfl (fun hc5 => ?_) (fun hc5 => ?_))))))
 refine aB (lp (aO rfl (aP k_76 (hs.g 2 rfl) hp.len.1)) rfl (aJ (dR 1 hs k_76 rfl rfl rfl hp.len.1 hpk.len.1 hp.len.2 rfl (fun w hs => aH ?_))))
 exact ⟨b10, Vc, cs, cs, sz, {}, m, m, hb10, qI_sub rfl rfl rfl rfl rfl rfl rfl rfl rfl, Vc.le_refl, hs, by rw [hc5, stepM_40], hp, hp, hwf, hwf, hsz ▸ RSeen.fault Vc .ok⟩
 refine dP (dM rfl rfl (lp (bI rfl rfl) rfl (dN rfl rfl (aH (bH rfl (fun hc6 => ?_) (fun hc6 => ?_))))))
 refine aB (lp (aO rfl (aP k_76 (hs.g 1 rfl) hpk.len.1)) rfl (aJ (dR 2 hs k_76 rfl rfl rfl hpk.len.1 hp.len.1 hpk.len.2 rfl (fun w hs => aH ?_))))
 exact ⟨b10, Vc, ks, ks, sz, {}, kept, kept, hb10, qI_sub rfl rfl rfl rfl rfl rfl rfl rfl rfl, Vc.le_refl, hs, by rw [hc6, stepM_41], hpk, hpk, hwfk, hwfk, hsz ▸ RSeen.fault Vc .ok⟩
 refine aB (lp (aR cV rfl) rfl ?_)
 subst hsz
 refine aJ (dQ 0 hs cH rfl rfl rfl rfl rfl rfl rfl (fun w hs => aH ?_))
 exact ⟨b10, Vc, cs, ks, _, { fault := 3 }, m, kept, hb10, qI_sub rfl rfl rfl rfl rfl rfl rfl rfl rfl, Vc.le_refl, hs, stepM_d hc1 hc2 hc3 hc4 hc5 hc6, hp, hpk, hwf, hwfk, RSeen.fault Vc .other⟩
 clear hs
 rintro ρ w ⟨b10, V', cs', ks', sc, s, m', kept', hb10, hsub, hle', hs, hstep, hp', hpk', hwf', hwfk', hRS⟩
 refine EW.weaken hsub (aB (dM rfl rfl (lp (aO rfl (aP bZ (hs.g 0 rfl) hRS.flat.2)) rfl (l_app1 (cl := sc) el_25 (SlX.close (L := [_, _, _]) hX hs) (fun _ => rfl) rfl rfl hRS.flat.2 hRS.flat.1 (by omega) (by omega) (by omega) rfl rfl (fun b16 sv' w hs => ?_)))))
 replace hs := hs.drop hb10
 skip
 refine dN rfl rfl (aH (aB (lp (bN rfl rfl (i64c (c := j + 1) (by omega) (by omega))) rfl (dM rfl rfl (aH ?_)))))
 obtain ⟨hrun, hend'⟩ := run_snoc hstj hend hstep
 exact ⟨(j + 1, m', kept', cs', ks', _, sv', V'), qE_sub rfl rfl rfl rfl rfl rfl rfl, ⟨hs, by
  show Rows 13 (RSeen V') (runM l {} {} (steps.take (j + 1))) _
  rw [hrun]
  exact Rows.snoc (hrows.mono fun _ _ h => h.mono hle') hRS hRS.flat.2, hp', hpk', hwf', hwfk', hend', by simp only; omega⟩, by simp only; omega⟩
 refine e_exit (aF ?_)
 have hjn : j = steps.length := by omega
 subst hjn
 rw [List.take_length] at hrows
 obtain ⟨V', hle', hsv, hs⟩ := hsl.give
 refine aB (dM rfl rfl (dN rfl rfl (aH (aV ⟨_, res1 rfl, ?_⟩))))
 exact ⟨V', (hs.drop hb6).drop hb5, _, by unfold parseM; rw [runM_len]; exact hsv, hrows.mono fun _ _ h => h.mono hle'⟩
theorem c_Lead (hV : V.In w0) (a b c d : Nat) {av bv cv dv : Int} (ha : av = a) (hb : bv = b) (hc : cv = c) (hd : dv = d) (ha2 : a < 256) (hb2 : b < 256) (hc2 : c < 256) (hd2 : d < 256) :
  CallsV Tryz.prog 15 #[.int .i64 av, .int .i64 bv, .int .i64 cv, .int .i64 dv] w0 fun v w' => ∃ b0 : Nat, w0.heap.size ≤ b0 ∧ v = .slice (some ⟨b0, 0, none⟩) 12 12 ∧
   St ⟨w0, V, V⟩ w' [(b0, .cells (([0, 1, 0, 0, 0, UInt8.ofNat a, 0, UInt8.ofNat b, 0, UInt8.ofNat c, 0, UInt8.ofNat d] : List UInt8).map byteVal).toArray 5 (0, 0))] := by
 subst ha hb hc hd
 have hs := St.start hV
 have e : ∀ n : Nat, n < 256 → (UInt8.ofNat n).toNat = n := fun n h => by simp [UInt8.toNat_ofNat, Nat.mod_eq_of_lt h]
 refine aT [_, _, _, _] Tryz.func15 Tryz.ntmps15 Tryz.results15 rfl rfl (dP (dN rfl rfl (aH (dP (dM rfl rfl (lp (bY Tryz.underlying3 Tryz.underlying5 rfl (u8c rfl (by omega))) rfl (dM rfl rfl (lp (bY Tryz.underlying3 Tryz.underlying5 rfl (u8c rfl (by omega))) rfl (dM rfl rfl (lp (bY Tryz.underlying3 Tryz.underlying5 rfl (u8c rfl (by omega))) rfl (dM rfl rfl (lp (bY Tryz.underlying3 Tryz.underlying5 rfl (u8c rfl (by omega))) rfl (aJ (o_bslice (vls := [[.int .u8 0], [.int .u8 1], [.int .u8 0], [.int .u8 0], [.int .u8 0], [.int .u8 a], [.int .u8 0], [.int .u8 b], [.int .u8 0], [.int .u8 c], [.int .u8 0], [.int .u8 d]]) el_22 hs rfl rfl rfl rfl (by simp) (by decide) (by decide) rfl (fun b17 w hb17 he17 hs => ?_)))))))))))))))
 refine dN rfl rfl (aH (aV ⟨_, res1 rfl, ⟨b17, hb17, rfl, ?_⟩⟩))
 simp only [List.map_cons, List.map_nil, byteVal, e a ha2, e b hb2, e c hc2, e d hd2]
 exact hs
end
end Go.Proofs.YtmigokakpahgkaaGreatDoor

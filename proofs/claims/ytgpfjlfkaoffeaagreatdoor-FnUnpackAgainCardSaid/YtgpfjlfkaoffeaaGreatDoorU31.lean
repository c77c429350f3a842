/- The reference's machine: a step forward in a section, the start, questions. The reference's machine: a record's header, a record. The reference's machine: a record passed over, a body. The reference's machine: a step of the questions, a step of a section. -/
import Derived.Test.YtgpfjlfkaoffeaaGreatDoorU30
import Derived.Test.YtgpfjlfkaoffeaaGreatDoorU14
set_option linter.all false
namespace Go.Proofs.YtgpfjlfkaoffeaaGreatDoor
open Go
theorem num_ok {k : EK} (h : ¬ ((k.num : Nat) : Int) ≠ 0) : k = .ok := num_zero.1 (by omega)
theorem num_bad {k : EK} (h : ((k.num : Nat) : Int) ≠ 0) : k ≠ .ok := fun e => h (by rw [e]; rfl)
theorem macC_cnt {l : List UInt8} {mv : Value} {m : PM} {h : fY} {s : Nat} (h1 : 1 ≤ s) (h2 : s ≤ 4) : (macC mv (count l 1) (count l 2) (count l 3) (count l 4) m h)[s]? = some (.int .i64 (count l s : Nat)) := by
 rcases (by omega : s = 1 ∨ s = 2 ∨ s = 3 ∨ s = 4) with rfl | rfl | rfl | rfl <;> rfl
section
variable {V : Vw} {w0 : World} {l : List UInt8} {mv : Value} {bp : Nat} {E : TypeId} {m : PM} {cs : List Value}
set_option maxHeartbeats 1000000 in
theorem c_advance (hV : V.In w0) (hmv : mv.oneCell' = true) (hown : w0.heap[bp]? = some (.cells cs.toArray E (0, 0))) (hvn : V bp = none) (hp : MR l mv m cs) (hs5 : m.sec ≤ 5) (s : Nat) {sv : Int} (hsv : sv = (s : Int) - 1) (h1 : 1 ≤ s) (h2 : s ≤ 4) :
  eC Tryz.prog 176 #[.pointer (some ⟨bp, 0, none⟩), .int .i64 sv] w0 fun v w' => ∃ (cs' : List Value) (k : EK) (m' : PM), v = .int .i64 (k.num : Nat) ∧ St ⟨w0, V, V⟩ w' [(bp, .cells cs'.toArray E (0, 0))] ∧ fH l m s = (k, m') ∧ MR l mv m' cs' := by
 subst hsv
 have hp' := hp
 obtain ⟨bv, k1, k2, k3, k4, h, rfl, hbv, hk⟩ := hp'
 have hs := St.start1 hV hown (bU _ _) hvn
 refine aT [_, _] Tryz.func176 Tryz.ntmps176 Tryz.results176 rfl rfl (dP (dN rfl rfl (aH (aF (dP (dM rfl rfl (lp (aN rfl) rfl (lp (aR fo_125_2 rfl) rfl (lp (aO rfl (aQ cH (hs.g 0 rfl) rfl)) rfl (dM rfl rfl (lp (cY rfl rfl) rfl (aH (bH rfl (fun hc0 => ?_) (fun hc0 => ?_))))))))))))))
 refine dP (dN rfl rfl (aH (aV ⟨_, fW rfl, ?_⟩)))
 exact ⟨_, .early, m, rfl, hs, by unfold fH; rw [if_pos (by omega)], hp⟩
 · refine aW (aF (dP (dM rfl rfl (lp (aN rfl) rfl (lp (aR fo_125_2 rfl) rfl (lp (aO rfl (aQ cH (hs.g 0 rfl) rfl)) rfl (dM rfl rfl (lp (cQ rfl rfl) rfl (aH (bH rfl (fun hc1 => ?_) (fun hc1 => ?_)))))))))))
   · refine dP (dN rfl rfl (aH (aV ⟨_, fW rfl, ?_⟩)))
     exact ⟨_, .done, m, rfl, hs, by unfold fH; rw [if_neg (by omega), if_pos (by omega)], hp⟩
   · refine aW (aF ?_)
     have hss : m.sec = s := by omega
     obtain ⟨e0, rfl, rfl, rfl, rfl⟩ := hk (by omega)
     rw [e0] at hs
     refine aB (dM rfl rfl (lp (aN rfl) rfl (lp (aR fo_125_5 rfl) rfl (aJ (dQ 0 hs k_4 rfl rfl rfl rfl rfl rfl rfl (fun w hs => ?_))))))
     obtain ⟨m1, hm1, hs⟩ : ∃ m1 : PM, m1 = { m with valid := false } ∧ St ⟨w0, V, V⟩ w [(bp, .cells (macC mv (count l 1) (count l 2) (count l 3) (count l 4) m1 h).toArray E (0, 0))] := ⟨_, rfl, hs⟩
     have e1 : m1.sec = m.sec := by rw [hm1]
     have e2 : m1.index = m.index := by rw [hm1]
     refine aH (aF (aF (bV hs [3, 9] mixed (fun w hs => dI 0 rfl (fun w => aC rfl) rfl rfl (dI 1 rfl (fun w => aN rfl) rfl rfl (dI 2 rfl (fun w => aR fo_125_3 rfl) rfl rfl (dJ 3 rfl hs rfl (fun w hs => (aO rfl (aQ cH (hs.g 0 rfl) rfl))) rfl (dI 4 rfl (fun w => aC rfl) rfl rfl (dI 5 rfl (fun w => aC rfl) rfl rfl (dI 6 rfl (fun w => aN rfl) rfl rfl (dI 7 rfl (fun w => aR fo_125_1 rfl) rfl rfl (dI 8 rfl (fun w => (po_iaArrN (s - 1) s ar_123 rfl rfl (by omega) (by omega) (by omega))) rfl rfl (dJ 9 rfl hs rfl (fun w hs => (aO rfl (bR (v := .int .i64 (count l s : Nat)) cH (by rw [cell_list (hs.g 0 rfl)]; exact macC_cnt h1 h2)))) rfl ?_)))))))))))))
     refine dI 10 rfl (fun w => bI rfl rfl) rfl rfl (bS (by decide +kernel) (bH rfl (fun hc2 => ?_) (fun hc2 => ?_)))
     · refine dP (dM rfl rfl (lp (aN rfl) rfl (lp (aR fo_125_3 rfl) rfl (aJ (dQ 0 hs cH rfl rfl rfl rfl rfl rfl rfl (fun w hs => aH (dP (dM rfl rfl (lp (aN rfl) rfl (lp (aR fo_125_2 rfl) rfl (lp (aO rfl (aQ cH (hs.g 0 rfl) rfl)) rfl (lp (bN (c := ((m1.sec + 1 : Nat) : Int) - 1) rfl rfl (by rw [i64w (by omega)]; omega)) rfl (lp (aN rfl) rfl (lp (aR fo_125_2 rfl) rfl ?_))))))))))))))
       refine aJ (dQ 0 hs cH rfl rfl rfl rfl rfl rfl rfl (fun w hs => aH (dP (dN rfl rfl (aH (aV ⟨_, fW rfl, ?_⟩))))))
       exact ⟨_, .done, { m1 with index := 0, sec := m1.sec + 1 }, rfl, hs, by unfold fH; rw [if_neg (by omega), if_neg (by omega), if_pos (by omega), hm1], MR.mk h hmv rfl⟩
     refine aW (dP (dN rfl rfl (aH (aV ⟨_, fW rfl, ?_⟩))))
     exact ⟨_, .ok, m1, rfl, hs, by unfold fH; rw [if_neg (by omega), if_neg (by omega), if_neg (by omega), hm1], MR.mk h hmv rfl⟩
set_option maxHeartbeats 2000000 in
theorem c_mstart (hV : V.In w0) (hb : RB V mv l) (hown : w0.heap[bp]? = some (.cells cs.toArray E (0, 0))) (hvn : V bp = none) (hp : MR l mv m cs) (h2l : l.length ≤ 4294967296) :
  eC Tryz.prog 54 #[.pointer (some ⟨bp, 0, none⟩), mv] w0 fun v w' => ∃ (cs' sc : List Value) (s : PSeen) (m' : PM), v = .agg sc.toArray ∧ St ⟨w0, V, V⟩ w' [(bp, .cells cs'.toArray E (0, 0))] ∧ startM l = (s, m') ∧ MR l mv m' cs' ∧ WF l m' ∧ RSeen V s sc := by
 have hmv := hb.oneCell
 have hcl := hp.len.1
 have hb0 := hb
 obtain ⟨a, cap, rfl, hcap, ha⟩ := hb0.form
 have hs := St.start1 hV hown (bU _ _) hvn
 refine aT [_, _] Tryz.func54 Tryz.ntmps54 Tryz.results54 rfl rfl (dP (aJ (aX hs z_81 rfl (fun b4 w hb4 he4 hs => aH (dP (dM rfl rfl (dM rfl rfl (lp (bL rfl (by rfl) (bu_125_0_2 _ _)) rfl (lp (aN rfl) rfl (aJ (dR 1 hs k_125 rfl rfl rfl rfl hcl (aG rfl) rfl (fun w hs => ?_))))))))))))
 replace hs : St ⟨w0, V, V⟩ _ [(b4, .cells (.int .i64 0 :: (headC 0 0 ++ [.slice none 0 0, .slice none 0 0])).toArray 81 (0, 0)), (bp, .cells (macC (.slice a l.length cap) 0 0 0 0 {} {}).toArray E (0, 0))] := hs
 refine aH (dP (dM rfl rfl (aZ ok_120 rfl rfl (c_Head hs.isIn hb (by omega)) rfl (fun v14 w HF => ?_))))
 obtain ⟨hcs, kcs, ok, rfl, hc, hr⟩ := HF
 replace hs := hs.frame hc
 have hlen : hcs.length = 10 ∧ Flat hcs ∧ kcs.length = 4 ∧ Flat kcs := by
  rcases hr with ⟨_, _, rfl, rfl⟩ | ⟨_, _, rfl, rfl⟩ <;> exact ⟨rfl, flat_headC _ _, rfl, cntC_flat _ _⟩
 refine dM rfl rfl (dO rfl rfl rfl (dO rfl rfl rfl (dO rfl rfl rfl (aJ (aX hs z_33 rfl (fun b5 w hb5 he5 hs => aJ (aX hs z_123 rfl (fun b6 w hb6 he6 hs => aJ (dR 1 hs bZ rfl rfl rfl hlen.1 rfl hlen.2.1 rfl (fun w hs => aJ (dR 0 hs k_123 rfl rfl rfl hlen.2.2.1 rfl hlen.2.2.2 rfl (fun w hs => dN rfl rfl (aH (aF (dP (dM rfl rfl (lp (cS rfl) rfl ?_)))))))))))))))))
 refine aH (bJ rfl (fun hc0 => ?_) (fun hc0 => ?_))
 obtain rfl : ok = false := by simpa using hc0
 refine dP (lp (bL rfl (by rfl) (bu_81_0 _)) rfl (aJ (dR 2 hs k_81 rfl rfl rfl rfl rfl (aG rfl) rfl (fun w hs => aH (aV ⟨_, fW ⟨_, rfl, aP k_81 (hs.g 2 rfl) rfl⟩, ?_⟩)))))
 have hno : l.length < 12 := by
  rcases hr with ⟨h, _⟩ | ⟨_, h, _⟩
  cases h
  exact h
 exact ⟨_, _, { fault := 3 }, {}, rfl, ((hs.drop hb6).drop hb5).drop hb4, by unfold startM; rw [if_pos hno], ⟨_, _, _, _, _, _, rfl, hmv, fun h => absurd h (by decide)⟩, wf_init l, RSeen.fault V .other⟩
 obtain rfl : ok = true := by simpa using hc0
 refine aW (aF ?_)
 obtain ⟨_, h12, rfl, rfl⟩ : true = true ∧ 12 ≤ l.length ∧ hcs = headC (w16 l 0) (w16 l 2) ∧ kcs = cntC l 4 := by
  rcases hr with ⟨_, h⟩ | ⟨h, _⟩
  exact ⟨rfl, h⟩
  cases h
 refine aB (dM rfl rfl (lp (aO rfl (aP k_123 (hs.g 0 rfl) rfl)) rfl (lp (aN rfl) rfl (lp (aR fo_125_1 rfl) rfl (aJ (o_storeA (k := 3) (p := 1) hs k_123 rfl rfl rfl rfl (by show 1 + 4 ≤ 26; decide) (cntC_flat _ _) rfl (fun w hs => ?_)))))))
 replace hs : St ⟨w0, V, V⟩ _ [(b6, .cells (cntC l 4).toArray 123 (0, 0)), (b5, .cells (headC (w16 l 0) (w16 l 2)).toArray 33 (0, 0)), (b4, .cells (.int .i64 0 :: (headC 0 0 ++ [.slice none 0 0, .slice none 0 0])).toArray 81 (0, 0)), (bp, .cells (macC (.slice a l.length cap) (count l 1) (count l 2) (count l 3) (count l 4) {} {}).toArray E (0, 0))] := hs
 refine aH (dP (dM rfl rfl (lp (aN rfl) rfl (lp (aR fo_125_2 rfl) rfl (aJ (dQ 3 hs cH rfl rfl rfl rfl rfl rfl rfl (fun w hs => aH (dP (dM rfl rfl (lp (aN rfl) rfl (lp (aR fo_125_4 rfl) rfl (aJ (dQ 3 hs cH rfl rfl rfl rfl rfl rfl rfl (fun w hs => aH (dP ?_)))))))))))))))
 refine lp (aO rfl (aP bZ (hs.g 1 rfl) rfl)) rfl (lp (po_buildL (cls := [headC (w16 l 0) (w16 l 2)]) rfl rfl (bg_81_1 _ _ _ _ _ _ _ _ _ _)) rfl (aJ (dR 2 hs k_81 rfl rfl rfl rfl rfl (aG rfl) rfl (fun w hs => aH (aV ⟨_, fW ⟨_, rfl, aP k_81 (hs.g 2 rfl) rfl⟩, ?_⟩)))))
 exact ⟨_, _, { id := w16 l 0, bits := w16 l 2 }, { sec := 1, at_ := 12 }, rfl, ((hs.drop hb6).drop hb5).drop hb4, by unfold startM; rw [if_neg (by omega)], MR.mk {} hmv rfl, wf_start h12, ⟨.slice none 0 0, .slice none 0 0, rfl, RAsks.nil V, RRecs.nil V⟩⟩
set_option maxHeartbeats 2000000 in
theorem c_mask (hV : V.In w0) (hb : RB V mv l) (hown : w0.heap[bp]? = some (.cells cs.toArray E (0, 0))) (hvn : V bp = none) (hp : MR l mv m cs) (hwf : WF l m) (h2l : l.length ≤ 4294967296) :
  eC Tryz.prog 121 #[.pointer (some ⟨bp, 0, none⟩)] w0 fun v w' => ∃ (cs' acs : List Value) (k : EK) (ao : Option PAsk) (m' : PM), v = .tuple #[.agg acs.toArray, .int .i64 (k.num : Nat)] ∧ St ⟨w0, V, V⟩ w' [(bp, .cells cs'.toArray E (0, 0))] ∧
   askM l m = (k, ao, m') ∧ MR l mv m' cs' ∧ acs.length = 3 ∧ Flat acs ∧ (k = .ok → ∃ a, ao = some a ∧ acs = askC a) := by
 have hmv := hb.oneCell
 have hs := St.start1 hV hown (bU _ _) hvn
 refine aT [_] Tryz.func121 Tryz.ntmps121 Tryz.results121 rfl rfl (dP (aJ (aX hs z_77 rfl (fun b2 w hb2 he2 hs => ?_))))
 obtain ⟨zz, hzl, hs⟩ : ∃ zz : List Value, zz.length = 3 ∧ St ⟨w0, V, V⟩ w [(b2, .cells zz.toArray 77 (0, 0)), (bp, .cells cs.toArray E (0, 0))] := ⟨_, rfl, hs⟩
 refine dN rfl rfl (aH (aF (dP (dM rfl rfl (aZ ok_176 rfl rfl (c_advance hs.isIn hmv (hs.g 1 rfl) (hs.off (k := 1) rfl) hp hwf.secs 1 rfl (by decide) (by decide)) rfl (fun v9 w HF => ?_))))))
 obtain ⟨cs', k, m1, rfl, hc, hadv, hp'⟩ := HF
 replace hs := hs.frame1 (k := 1) rfl rfl hc
 refine dN rfl rfl (aH (dP (dM rfl rfl (lp (po_neq rfl rfl) rfl (aH (bH rfl (fun hc0 => ?_) (fun hc0 => ?_)))))))
 refine dP (lp (bM (vs := []) (ps := []) rfl bz_77) rfl (dM rfl rfl (aJ (dR 0 hs k_77 rfl rfl rfl rfl hzl (aG rfl) rfl (fun w hs => dN rfl rfl (aH (aV ⟨_, fX ⟨_, rfl, aP k_77 (hs.g 0 rfl) rfl⟩ rfl, ?_⟩)))))))
 exact ⟨_, _, k, none, m1, rfl, hs.drop hb2, askM_bad hadv (num_bad hc0), hp', rfl, aG rfl, fun h => absurd h (num_bad hc0)⟩
 · obtain rfl := num_ok hc0
   have hwf1 := wf_advance hwf (by decide) (by decide) hadv
   obtain ⟨hsec, hidx, _, _, _⟩ := advance_lt hwf (by decide) (by decide) hadv
   have hcn := cW l 1
   have hat := hwf1.at_le
   obtain ⟨r, rfl⟩ := hp'.get (by omega)
   refine aW (dG (fun ρ w => ∃ (b5 : Nat) (acs : List Value) (o : Nat) (ok : Bool), w0.heap.size ≤ b5 ∧ Sub (eH (eH (eH (eH (eH emp 7 (.bool ok)) 6 (.int .i64 o)) 5 (.pointer (some ⟨b5, 0, none⟩))) 2 (.pointer (some ⟨b2, 0, none⟩))) 0 (.pointer (some ⟨bp, 0, none⟩))) ρ ∧ St ⟨w0, V, V⟩ w [(b5, .cells acs.toArray 77 (0, 0)), (b2, .cells zz.toArray 77 (0, 0)), (bp, .cells (macC mv (count l 1) (count l 2) (count l 3) (count l 4) m1 r).toArray E (0, 0))] ∧ SAsk l m1.at_ o ok acs) ?_ ?_)
   · refine bV hs [3, 7] mixed (fun w hs => dI 0 rfl (fun w => aC rfl) rfl rfl (dI 1 rfl (fun w => aN rfl) rfl rfl (dI 2 rfl (fun w => aR fo_125_0 rfl) rfl rfl (dJ 3 rfl hs rfl (fun w hs => (aO rfl (aQ k_23 (hs.g 1 rfl) rfl))) rfl (dI 4 rfl (fun w => aC rfl) rfl rfl (dI 5 rfl (fun w => aN rfl) rfl rfl (dI 6 rfl (fun w => aR fo_125_4 rfl) rfl rfl (dJ 7 rfl hs rfl (fun w hs => (aO rfl (aQ cH (hs.g 1 rfl) rfl))) rfl (a_two 8 13 (by decide +kernel) rfl rfl ?_ ?_)))))))))
     refine cF (cD rfl rfl ok_177 (c_Ask hs.isIn hb m1.at_ rfl (by omega) h2l)) rfl (fun v23 w HF => ?_)
     obtain ⟨hc, acs, o, ok, rfl, hr⟩ := HF
     replace hs := hs.frame hc
     refine ⟨fun h => absurd h (by decide +kernel), dI 9 rfl (fun w => aC rfl) rfl rfl (dI 10 rfl (fun w => aI rfl rfl) rfl rfl (dI 11 rfl (fun w => aI rfl rfl) rfl rfl (dI 12 rfl (fun w => aI rfl rfl) rfl rfl (dL 13 rfl (aX hs z_77 rfl (fun b5 w hb5 he5 hs => ⟨fun _ => (hs.drop hb5).less, ?_⟩))))))⟩
     rotate_left
     refine aX hs z_77 rfl (fun b5 w hb5 he5 hs => ⟨fun _ => (hs.drop hb5).less, dL 8 rfl (cF (cD rfl rfl ok_177 (c_Ask hs.isIn hb m1.at_ rfl (by omega) h2l)) rfl (fun v23 w HF => ?_))⟩)
     obtain ⟨hc, acs, o, ok, rfl, hr⟩ := HF
     replace hs := hs.frame hc
     refine ⟨fun h => absurd h (by decide +kernel), dI 9 rfl (fun w => aC rfl) rfl rfl (dI 10 rfl (fun w => aI rfl rfl) rfl rfl (dI 11 rfl (fun w => aI rfl rfl) rfl rfl (dI 12 rfl (fun w => aI rfl rfl) rfl rfl ?_)))⟩
     all_goals
      refine dL 14 rfl (dR 0 hs k_77 rfl rfl rfl hr.1 rfl hr.2.1 rfl (fun w hs => ⟨fun h => absurd h (by decide +kernel), dI 15 rfl (fun w => aD rfl) rfl rfl (dI 16 rfl (fun w => aD rfl) rfl rfl (bS (by decide +kernel) ?_))⟩))
      exact ⟨b5, acs, o, ok, hb5, aL rfl (aL rfl (aL rfl (aL rfl (aL rfl (bG _))))), hs, hr⟩
   clear hs
   rintro ρ w ⟨b5, acs, o, ok, hb5, hsub, hs, hr⟩
   refine EW.weaken hsub (aF (dP (dM rfl rfl (lp (cS rfl) rfl (aH (bJ rfl (fun hc1 => ?_) (fun hc1 => ?_)))))))
   obtain rfl : ok = false := by simpa using hc1
   refine dP (lp (bM (vs := []) (ps := []) rfl bz_77) rfl (aJ (dR 1 hs k_77 rfl rfl rfl rfl hzl (aG rfl) rfl (fun w hs => dN rfl rfl (aH (aV ⟨_, fX ⟨_, rfl, aP k_77 (hs.g 1 rfl) rfl⟩ rfl, ?_⟩))))))
   have hno : ask l m1.at_ = none := by
    rcases hr.2.2 with ⟨h, _⟩ | ⟨_, h⟩
    cases h
    exact h
   exact ⟨_, _, .other, none, m1, rfl, (hs.drop hb5).drop hb2, askM_none hadv hno, MR.mk r hmv rfl, rfl, aG rfl, fun h => by cases h⟩
   obtain rfl : ok = true := by simpa using hc1
   refine aW (dP (dM rfl rfl (dM rfl rfl (lp (aN rfl) rfl (lp (aR fo_125_4 rfl) rfl (aJ (dQ 2 hs cH rfl rfl rfl rfl rfl rfl rfl (fun w hs => aH (dP (dM rfl rfl (lp (aN rfl) rfl (lp (aR fo_125_3 rfl) rfl (lp (aO rfl (aQ cH (hs.g 2 rfl) rfl)) rfl (lp (bN rfl rfl (fV (c := m1.index + 1) (by omega) (by omega))) rfl ?_))))))))))))))
   refine lp (aN rfl) rfl (lp (aR fo_125_3 rfl) rfl (aJ (dQ 2 hs cH rfl rfl rfl rfl rfl rfl rfl (fun w hs => aH (dP (lp (aO rfl (aP k_77 (hs.g 0 rfl) hr.1)) rfl (aJ (dR 1 hs k_77 rfl rfl rfl hr.1 hzl hr.2.1 rfl (fun w hs => dN rfl rfl (aH (aV ⟨_, fX ⟨_, rfl, aP k_77 (hs.g 1 rfl) hr.1⟩ rfl, ?_⟩)))))))))))
   obtain ⟨x, hx, hxa⟩ : ∃ a, ask l m1.at_ = some (a, o) ∧ acs = askC a := by
    rcases hr.2.2 with ⟨_, h⟩ | ⟨h, _⟩
    exact h
    cases h
   exact ⟨_, _, .ok, some x, _, rfl, (hs.drop hb5).drop hb2, askM_some hadv hx, MR.mk r hmv rfl, hr.1, hr.2.1, fun _ => ⟨x, rfl, hxa⟩⟩
end
end Go.Proofs.YtgpfjlfkaoffeaaGreatDoor
namespace Go.Proofs.YtgpfjlfkaoffeaaGreatDoor
open Go
section
variable {V : Vw} {w0 : World} {l : List UInt8} {mv : Value} {off : Int}
theorem c_BodyK (hV : V.In w0) (hb : RB V mv l) (n : Nat) (hn : off = n) (kind : Nat) {kv : Int} (hkv : kv = kind) (hk1 : 1 ≤ kind) (hk13 : kind ≤ 13) (len : Nat) {lv : Int} (hlv : lv = len) (h1 : n ≤ 1152921504606746970) (hlen : len ≤ 65536) (h2 : l.length ≤ 4294967296) :
  eC Tryz.prog 126 #[mv, .int .i64 off, .int .i64 kv, .int .i64 lv] w0 fun v w' => ∃ (V' : Vw) (rc : List Value) (ok : Bool), v = .tuple #[.agg rc.toArray, .bool ok] ∧ St ⟨w0, V, V'⟩ w' [] ∧ SBody V' l n kind len ok rc := by
 subst hkv
 rcases (by omega : kind = 1 ∨ kind = 2 ∨ kind = 3 ∨ kind = 4 ∨ kind = 5 ∨ kind = 6 ∨ kind = 7 ∨ kind = 8 ∨ kind = 9 ∨ kind = 10 ∨ kind = 11 ∨ kind = 12 ∨ kind = 13) with rfl | rfl | rfl | rfl | rfl | rfl | rfl | rfl | rfl | rfl | rfl | rfl | rfl
 exact c_Body1 hV hb n hn len hlv h1 hlen h2
 exact c_Body2 hV hb n hn len hlv h1 hlen h2
 exact c_Body3 hV hb n hn len hlv h1 hlen h2
 exact c_Body4 hV hb n hn len hlv h1 hlen h2
 exact c_Body5 hV hb n hn len hlv h1 hlen h2
 exact c_Body6 hV hb n hn len hlv h1 hlen h2
 exact c_Body7 hV hb n hn len hlv h1 hlen h2
 exact c_Body8 hV hb n hn len hlv h1 hlen h2
 exact c_Body9 hV hb n hn len hlv h1 hlen h2
 exact c_Body10 hV hb n hn len hlv h1 hlen h2
 exact c_Body11 hV hb n hn len hlv h1 hlen h2
 exact c_Body12 hV hb n hn len hlv h1 hlen h2
 exact c_Body13 hV hb n hn len hlv h1 hlen h2
theorem SBody.okB {V : Vw} {n kind len : Nat} {rc : List Value} (h : SBody V l n kind len true rc) : ∃ r, body l n kind len = some r ∧ RRec V r rc := by
 rcases h.2.2 with ⟨_, h⟩ | ⟨h, _⟩
 exact h
 cases h
theorem SBody.badB {V : Vw} {n kind len : Nat} {rc : List Value} (h : SBody V l n kind len false rc) : body l n kind len = none := by
 rcases h.2.2 with ⟨h, _⟩ | ⟨_, h⟩
 cases h
 exact h
end
section
variable {V : Vw} {w0 : World} {l : List UInt8} {mv : Value} {bp : Nat} {E : TypeId} {m : PM} {cs : List Value}
set_option maxHeartbeats 2000000 in
theorem c_mbegin (hV : V.In w0) (hb : RB V mv l) (hown : w0.heap[bp]? = some (.cells cs.toArray E (0, 0))) (hvn : V bp = none) (hp : MR l mv m cs) (hwf : WF l m) (h2l : l.length ≤ 4294967296) (s : Nat) {sv : Int} (hsv : sv = (s : Int) - 1) (h1 : 1 ≤ s) (h2 : s ≤ 4) :
  eC Tryz.prog 123 #[.pointer (some ⟨bp, 0, none⟩), .int .i64 sv] w0 fun v w' => ∃ (cs' rcs : List Value) (k : EK) (ro : Option fY) (m' : PM), v = .tuple #[.agg rcs.toArray, .int .i64 (k.num : Nat)] ∧ St ⟨w0, V, V⟩ w' [(bp, .cells cs'.toArray E (0, 0))] ∧
   beginM l m s = (k, ro, m') ∧ MR l mv m' cs' ∧ rcs.length = 16 ∧ Flat rcs ∧ (k = .ok → ∃ r, ro = some r ∧ rcs = eY r (.slice none 0 0) (.slice none 0 0) (.slice none 0 0)) := by
 subst hsv
 have hmv := hb.oneCell
 obtain ⟨bv, k1, k2, k3, k4, h, rfl, hbv, hk⟩ := hp
 have hs := St.start1 hV hown (bU _ _) hvn
 refine aT [_, _] Tryz.func123 Tryz.ntmps123 Tryz.results123 rfl rfl (dP (aJ (aX hs z_30 rfl (fun b4 w hb4 he4 hs => ?_))))
 obtain ⟨zz, hzl, hs⟩ : ∃ zz : List Value, zz.length = 16 ∧ St ⟨w0, V, V⟩ w [(b4, .cells zz.toArray 30 (0, 0)), (bp, .cells (macC bv k1 k2 k3 k4 m h).toArray E (0, 0))] := ⟨_, rfl, hs⟩
 refine dN rfl rfl (aH (dG (fun ρ w => Sub (eH (eH (eH emp 4 (.pointer (some ⟨b4, 0, none⟩))) 1 (.int .i64 ((s : Int) - 1))) 0 (.pointer (some ⟨bp, 0, none⟩))) ρ ∧ St ⟨w0, V, V⟩ w [(b4, .cells zz.toArray 30 (0, 0)), (bp, .cells (macC bv k1 k2 k3 k4 (m1Of m) h).toArray E (0, 0))]) ?_ ?_))
 refine dP (dM rfl rfl (lp (aN rfl) rfl (lp (aR fo_125_5 rfl) rfl (lp (aO rfl (aQ k_4 (hs.g 1 rfl) rfl)) rfl (aH (bJ rfl (fun hc0 => ?_) (fun hc0 => ?_)))))))
 refine aB (dM rfl rfl (dM rfl rfl (lp (aN rfl) rfl (lp (aR fo_125_6 rfl) rfl (lp (aO rfl (aQ cH (hs.g 1 rfl) rfl)) rfl (lp (aN rfl) rfl (lp (aR fo_125_4 rfl) rfl (aJ (dQ 1 hs cH rfl rfl rfl rfl rfl rfl rfl (fun w hs => aH ?_))))))))))
 have e : m1Of m = { m with at_ := m.headAt } := by unfold m1Of; rw [if_pos hc0]
 rw [e]
 exact ⟨aL rfl (aL rfl (aL rfl (bG _))), hs⟩
 refine aW ?_
 have e : m1Of m = m := by unfold m1Of; rw [if_neg (by rw [hc0]; decide)]
 rw [e]
 exact ⟨aL rfl (aL rfl (aL rfl (bG _))), hs⟩
 · clear hs
   rintro ρ w ⟨hsub, hs⟩
   refine EW.weaken hsub (aF (dP (dM rfl rfl (dM rfl rfl (aZ ok_176 rfl rfl (c_advance hs.isIn hmv (hs.g 1 rfl) (hs.off (k := 1) rfl) (m := m1Of m) ⟨bv, k1, k2, k3, k4, h, rfl, hbv, by rw [m1Of_sec]; exact hk⟩ (by rw [m1Of_sec]; exact hwf.secs) s rfl h1 h2) rfl (fun v23 w HF => ?_))))))
   obtain ⟨cs', k, m1, rfl, hc, hadv, hp'⟩ := HF
   replace hs := hs.frame1 (k := 1) rfl rfl hc
   refine dN rfl rfl (aH (dP (dM rfl rfl (lp (po_neq rfl rfl) rfl (aH (bH rfl (fun hc1 => ?_) (fun hc1 => ?_)))))))
   refine dP (lp (bM (vs := []) (ps := []) rfl bz_30) rfl (dM rfl rfl (aJ (dR 0 hs eJ rfl rfl rfl rfl hzl (aG rfl) rfl (fun w hs => dN rfl rfl (aH (aV ⟨_, fX ⟨_, rfl, aP eJ (hs.g 0 rfl) rfl⟩ rfl, ?_⟩)))))))
   exact ⟨_, _, k, none, m1, rfl, hs.drop hb4, beginM_bad hadv (num_bad hc1), hp', rfl, aG rfl, fun h => absurd h (num_bad hc1)⟩
   · obtain rfl := num_ok hc1
     have hwf1 := wf_advance (wf_m1 hwf) h1 h2 hadv
     obtain ⟨hsec, hidx, _, _, _⟩ := advance_lt (wf_m1 hwf) h1 h2 hadv
     have hat := hwf1.at_le
     obtain ⟨r, rfl⟩ := hp'.get (by omega)
     refine aW (dG (fun ρ w => ∃ (b7 : Nat) (rcs : List Value) (o : Nat) (ok : Bool), w0.heap.size ≤ b7 ∧ Sub (eH (eH (eH (eH (eH emp 9 (.bool ok)) 8 (.int .i64 o)) 7 (.pointer (some ⟨b7, 0, none⟩))) 4 (.pointer (some ⟨b4, 0, none⟩))) 0 (.pointer (some ⟨bp, 0, none⟩))) ρ ∧ St ⟨w0, V, V⟩ w [(b7, .cells rcs.toArray 30 (0, 0)), (b4, .cells zz.toArray 30 (0, 0)), (bp, .cells (macC mv (count l 1) (count l 2) (count l 3) (count l 4) m1 r).toArray E (0, 0))] ∧ SHdr l m1.at_ o ok rcs) ?_ ?_)
     · refine bV hs [3, 7] mixed (fun w hs => dI 0 rfl (fun w => aC rfl) rfl rfl (dI 1 rfl (fun w => aN rfl) rfl rfl (dI 2 rfl (fun w => aR fo_125_0 rfl) rfl rfl (dJ 3 rfl hs rfl (fun w hs => (aO rfl (aQ k_23 (hs.g 1 rfl) rfl))) rfl (dI 4 rfl (fun w => aC rfl) rfl rfl (dI 5 rfl (fun w => aN rfl) rfl rfl (dI 6 rfl (fun w => aR fo_125_4 rfl) rfl rfl (dJ 7 rfl hs rfl (fun w hs => (aO rfl (aQ cH (hs.g 1 rfl) rfl))) rfl (a_two 8 13 (by decide +kernel) rfl rfl ?_ ?_)))))))))
       refine cF (cD rfl rfl ok_179 (c_Start hs.isIn hb m1.at_ rfl (by omega) h2l)) rfl (fun v37 w HF => ?_)
       obtain ⟨hc, rcs, o, ok, rfl, hr⟩ := HF
       replace hs := hs.frame hc
       refine ⟨fun h => absurd h (by decide +kernel), dI 9 rfl (fun w => aC rfl) rfl rfl (dI 10 rfl (fun w => aI rfl rfl) rfl rfl (dI 11 rfl (fun w => aI rfl rfl) rfl rfl (dI 12 rfl (fun w => aI rfl rfl) rfl rfl (dL 13 rfl (aX hs z_30 rfl (fun b7 w hb7 he7 hs => ⟨fun _ => (hs.drop hb7).less, ?_⟩))))))⟩
       rotate_left
       refine aX hs z_30 rfl (fun b7 w hb7 he7 hs => ⟨fun _ => (hs.drop hb7).less, dL 8 rfl (cF (cD rfl rfl ok_179 (c_Start hs.isIn hb m1.at_ rfl (by omega) h2l)) rfl (fun v37 w HF => ?_))⟩)
       obtain ⟨hc, rcs, o, ok, rfl, hr⟩ := HF
       replace hs := hs.frame hc
       refine ⟨fun h => absurd h (by decide +kernel), dI 9 rfl (fun w => aC rfl) rfl rfl (dI 10 rfl (fun w => aI rfl rfl) rfl rfl (dI 11 rfl (fun w => aI rfl rfl) rfl rfl (dI 12 rfl (fun w => aI rfl rfl) rfl rfl ?_)))⟩
       all_goals
        refine dL 14 rfl (dR 0 hs eJ rfl rfl rfl hr.1 rfl hr.2.1 rfl (fun w hs => ⟨fun h => absurd h (by decide +kernel), dI 15 rfl (fun w => aD rfl) rfl rfl (dI 16 rfl (fun w => aD rfl) rfl rfl (bS (by decide +kernel) ?_))⟩))
        exact ⟨b7, rcs, o, ok, hb7, aL rfl (aL rfl (aL rfl (aL rfl (aL rfl (bG _))))), hs, hr⟩
     clear hs
     rintro ρ w ⟨b7, rcs, o, ok, hb7, hsub, hs, hr⟩
     refine EW.weaken hsub (aF (dP (dM rfl rfl (lp (cS rfl) rfl (aH (bJ rfl (fun hc2 => ?_) (fun hc2 => ?_)))))))
     obtain rfl : ok = false := by simpa using hc2
     refine dP (lp (bM (vs := []) (ps := []) rfl bz_30) rfl (aJ (dR 1 hs eJ rfl rfl rfl rfl hzl (aG rfl) rfl (fun w hs => dN rfl rfl (aH (aV ⟨_, fX ⟨_, rfl, aP eJ (hs.g 1 rfl) rfl⟩ rfl, ?_⟩))))))
     have hno : header l m1.at_ = none := by
      rcases hr.2.2 with ⟨h, _⟩ | ⟨_, h⟩
      cases h
      exact h
     exact ⟨_, _, .other, none, m1, rfl, (hs.drop hb7).drop hb4, beginM_none hadv hno, MR.mk r hmv rfl, rfl, aG rfl, fun h => by cases h⟩
     obtain rfl : ok = true := by simpa using hc2
     refine aW (aF ?_)
     obtain ⟨x, hx, rfl⟩ : ∃ x, header l m1.at_ = some (x, o) ∧ rcs = eY x (.slice none 0 0) (.slice none 0 0) (.slice none 0 0) := by
      rcases hr.2.2 with ⟨_, h⟩ | ⟨h, _⟩
      exact h
      cases h
     refine aB (dM rfl rfl (lp (aN rfl) rfl (lp (aR fo_125_5 rfl) rfl (aJ (dQ 2 hs k_4 rfl rfl rfl rfl rfl rfl rfl (fun w hs => aH (dP (dM rfl rfl (dM rfl rfl (lp (aN rfl) rfl (lp (aR fo_125_4 rfl) rfl (lp (aO rfl (aQ cH (hs.g 2 rfl) rfl)) rfl (lp (aN rfl) rfl (lp (aR fo_125_6 rfl) rfl ?_))))))))))))))
     refine aJ (dQ 2 hs cH rfl rfl rfl rfl rfl rfl rfl (fun w hs => aH (dP (dM rfl rfl (lp (aO rfl (aP eJ (hs.g 0 rfl) rfl)) rfl (lp (aN rfl) rfl (lp (aR fo_125_7 rfl) rfl (aJ (o_storeA (k := 2) (p := 10) hs eJ rfl rfl rfl rfl (by show 10 + 16 ≤ 26; decide) hr.2.1 rfl (fun w hs => ?_))))))))))
     replace hs : St ⟨w0, V, V⟩ _ [(b7, .cells (eY x (.slice none 0 0) (.slice none 0 0) (.slice none 0 0)).toArray 30 (0, 0)), (b4, .cells zz.toArray 30 (0, 0)), (bp, .cells (macC mv (count l 1) (count l 2) (count l 3) (count l 4) { m1 with valid := true, headAt := m1.at_, htype := x.type, hlen := x.length } x).toArray E (0, 0))] := hs
     refine aH (dP (dM rfl rfl (dM rfl rfl (lp (aN rfl) rfl (lp (aR fo_125_4 rfl) rfl (aJ (dQ 2 hs cH rfl rfl rfl rfl rfl rfl rfl (fun w hs => aH (dP (lp (aO rfl (aP eJ (hs.g 0 rfl) rfl)) rfl (aJ (dR 1 hs eJ rfl rfl rfl rfl hzl hr.2.1 rfl (fun w hs => dN rfl rfl (aH (aV ?_)))))))))))))))
     refine ⟨_, fX ⟨_, rfl, aP eJ (hs.g 1 rfl) rfl⟩ rfl, ?_⟩
     exact ⟨_, _, .ok, some x, _, rfl, (hs.drop hb7).drop hb4, beginM_some hadv hx, MR.mk x hmv rfl, rfl, hr.2.1, fun _ => ⟨x, rfl, rfl⟩⟩
set_option maxHeartbeats 4000000 in
theorem c_mrecord (hV : V.In w0) (hb : RB V mv l) (hown : w0.heap[bp]? = some (.cells cs.toArray E (0, 0))) (hvn : V bp = none) (hp : MR l mv m cs) (hwf : WF l m) (h2l : l.length ≤ 4294967296) (s : Nat) {sv : Int} (hsv : sv = (s : Int) - 1) (h1 : 1 ≤ s) (h2 : s ≤ 4) :
  eC Tryz.prog 124 #[.pointer (some ⟨bp, 0, none⟩), .int .i64 sv] w0 fun v w' => ∃ (V' : Vw) (cs' rcs : List Value) (k : EK) (ro : Option fY) (m' : PM), v = .tuple #[.agg rcs.toArray, .int .i64 (k.num : Nat)] ∧ St ⟨w0, V, V'⟩ w' [(bp, .cells cs'.toArray E (0, 0))] ∧
   recordM l m s = (k, ro, m') ∧ MR l mv m' cs' ∧ rcs.length = 16 ∧ Flat rcs ∧ (k = .ok → ∃ r, ro = some r ∧ RRec V' r rcs) := by
 have hmv := hb.oneCell
 have hs := St.start1 hV hown (bU _ _) hvn
 refine aT [_, _] Tryz.func124 Tryz.ntmps124 Tryz.results124 rfl rfl (dP (aJ (aX hs z_30 rfl (fun b4 w hb4 he4 hs => ?_))))
 obtain ⟨zz, hzl, hs⟩ : ∃ zz : List Value, zz.length = 16 ∧ St ⟨w0, V, V⟩ w [(b4, .cells zz.toArray 30 (0, 0)), (bp, .cells cs.toArray E (0, 0))] := ⟨_, rfl, hs⟩
 refine dN rfl rfl (aH (dP (dM rfl rfl (dM rfl rfl (aZ ok_123 rfl rfl (c_mbegin hs.isIn hb (hs.g 1 rfl) (hs.off (k := 1) rfl) hp hwf h2l s hsv h1 h2) rfl (fun v13 w HF => ?_))))))
 obtain ⟨cs', rcs, k, ro, m1, rfl, hc, hbeg, hp', hrl, hrf, hr⟩ := HF
 replace hs := hs.frame1 (k := 1) rfl rfl hc
 refine dM rfl rfl (dO rfl rfl rfl (dO rfl rfl rfl (aJ (aX hs z_30 rfl (fun b6 w hb6 he6 hs => aJ (dR 0 hs eJ rfl rfl rfl hrl rfl hrf rfl (fun w hs => dN rfl rfl (aH (aF (dP (dM rfl rfl (lp (po_neq rfl rfl) rfl (aH (bH rfl (fun hc0 => ?_) (fun hc0 => ?_)))))))))))))))
 refine dP (lp (bM (vs := []) (ps := []) rfl bz_30) rfl (dM rfl rfl (aJ (dR 1 hs eJ rfl rfl rfl rfl hzl (aG rfl) rfl (fun w hs => dN rfl rfl (aH (aV ⟨_, fX ⟨_, rfl, aP eJ (hs.g 1 rfl) rfl⟩ rfl, ?_⟩)))))))
 exact ⟨V, _, _, k, none, m1, rfl, (hs.drop hb6).drop hb4, recordM_bad hbeg (num_bad hc0), hp', rfl, aG rfl, fun h => absurd h (num_bad hc0)⟩
 · obtain rfl := num_ok hc0
   obtain ⟨r, rfl, rfl⟩ := hr rfl
   obtain ⟨r', o, m0, hadv, hhd, hre, hm1⟩ := beginM_ok hbeg
   cases hre
   have hhs := header_some hhd
   have hwf1 := wf_beginM hwf h1 h2
   rw [hbeg] at hwf1
   simp only at hwf1
   have hv1 : m1.valid = true := by rw [hm1]
   obtain ⟨hs1, hs4⟩ := valid_sec hwf1 hv1
   obtain ⟨hidx, _, hat⟩ := hwf1.idxV hv1
   have hcn := cW l m1.sec
   obtain ⟨r0, rfl⟩ := hp'.get hs1
   refine aW (dP (dM rfl rfl (lp (aN rfl) rfl (lp (aR fo_125_5 rfl) rfl (aJ (dQ 2 hs k_4 rfl rfl rfl rfl rfl rfl rfl (fun w hs => ?_)))))))
   obtain ⟨m2, hm2, hs⟩ : ∃ m2 : PM, m2 = { m1 with valid := false } ∧ St ⟨w0, V, V⟩ w [(b6, .cells (eY r (.slice none 0 0) (.slice none 0 0) (.slice none 0 0)).toArray 30 (0, 0)), (b4, .cells zz.toArray 30 (0, 0)), (bp, .cells (macC mv (count l 1) (count l 2) (count l 3) (count l 4) m2 r0).toArray E (0, 0))] := ⟨_, rfl, hs⟩
   have e1 : m2.at_ = m1.at_ := by rw [hm2]
   have e2 : m2.index = m1.index := by rw [hm2]
   refine aH (dG (fun ρ w => ∃ (V1 : Vw) (b8 : Nat) (bcs : List Value) (ok : Bool), w0.heap.size ≤ b8 ∧ Sub (eH (eH (eH (eH (eH emp 9 (.bool ok)) 8 (.pointer (some ⟨b8, 0, none⟩))) 6 (.pointer (some ⟨b6, 0, none⟩))) 4 (.pointer (some ⟨b4, 0, none⟩))) 0 (.pointer (some ⟨bp, 0, none⟩))) ρ ∧ St ⟨w0, V, V1⟩ w [(b8, .cells bcs.toArray 30 (0, 0)), (b6, .cells (eY r (.slice none 0 0) (.slice none 0 0) (.slice none 0 0)).toArray 30 (0, 0)), (b4, .cells zz.toArray 30 (0, 0)), (bp, .cells (macC mv (count l 1) (count l 2) (count l 3) (count l 4) m2 r0).toArray E (0, 0))] ∧ SBody V1 l m2.at_ (eE r.type) r.length ok bcs) ?_ ?_)
   · refine e_draw (fun w2 => w2.heap[bp]? = some (.cells (macC mv (count l 1) (count l 2) (count l 3) (count l 4) m2 r0).toArray E (0, 0)) ∧ w2.heap[b6]? = some (.cells (eY r (.slice none 0 0) (.slice none 0 0) (.slice none 0 0)).toArray 30 (0, 0))) [3, 7, 9, 12] mixed (fun w hw => ?_)
     replace hs := hw.st hs
     refine dI 0 rfl (fun w => aC rfl) rfl rfl (dI 1 rfl (fun w => aN rfl) rfl rfl (dI 2 rfl (fun w => aR fo_125_0 rfl) rfl rfl (dJ 3 rfl ((⟨hs.g 2 rfl, hs.g 0 rfl⟩)) rfl (fun w hf => (aO rfl (aQ k_23 hf.1 rfl))) rfl (dI 4 rfl (fun w => aC rfl) rfl rfl (dI 5 rfl (fun w => aN rfl) rfl rfl (dI 6 rfl (fun w => aR fo_125_4 rfl) rfl rfl (dJ 7 rfl ((⟨hs.g 2 rfl, hs.g 0 rfl⟩)) rfl (fun w hf => (aO rfl (aQ cH hf.1 rfl))) rfl (dI 8 rfl (fun w => aR fo_30_1 rfl) rfl rfl (dJ 9 rfl ((⟨hs.g 2 rfl, hs.g 0 rfl⟩)) rfl (fun w hf => (aO rfl (aQ eS hf.2 rfl))) rfl (dI 11 rfl (fun w => aR fo_30_4 rfl) rfl rfl (dJ 12 rfl ((⟨hs.g 2 rfl, hs.g 0 rfl⟩)) rfl (fun w hf => (aO rfl (aQ eS hf.2 rfl))) rfl (dI 13 rfl (fun w => (bY Tryz.underlying22 Tryz.underlying3 rfl (fV (c := r.length) rfl (by omega)))) rfl rfl (a_two 10 18 (by decide +kernel) rfl rfl ?_ ?_)))))))))))))
     · refine cF (cD rfl rfl ok_118 (c_KindOf hs.isIn r.type rfl)) rfl (fun v34 w HF => ?_)
       obtain ⟨rfl, hc⟩ := HF
       replace hs := hs.frame hc
       refine ⟨fun _ => (⟨hs.g 2 rfl, hs.g 0 rfl⟩), a_two 14 18 (by decide +kernel) rfl rfl ?_ ?_⟩
       refine cF (cD rfl rfl ok_126 (c_BodyK hs.isIn hb m2.at_ rfl (eE r.type) rfl (kind_pos _).1 (kind_pos _).2 r.length rfl (by omega) (by omega) h2l)) rfl (fun v38 w HF => ?_)
       obtain ⟨V1, bcs, ok, rfl, hc, hr⟩ := HF
       replace hs := hs.frame hc
       refine ⟨fun _ => (⟨hs.g 2 rfl, hs.g 0 rfl⟩), dI 15 rfl (fun w => aC rfl) rfl rfl (dI 16 rfl (fun w => aI rfl rfl) rfl rfl (dI 17 rfl (fun w => aI rfl rfl) rfl rfl (dL 18 rfl (aX hs z_30 rfl (fun b8 w hb8 he8 hs => ⟨fun _ => (⟨hs.g 3 rfl, hs.g 1 rfl⟩), ?_⟩)))))⟩
       rotate_left
       refine aX hs z_30 rfl (fun b8 w hb8 he8 hs => ⟨fun _ => (⟨hs.g 3 rfl, hs.g 1 rfl⟩), dL 14 rfl (cF (cD rfl rfl ok_126 (c_BodyK hs.isIn hb m2.at_ rfl (eE r.type) rfl (kind_pos _).1 (kind_pos _).2 r.length rfl (by omega) (by omega) h2l)) rfl (fun v38 w HF => ?_))⟩)
       obtain ⟨V1, bcs, ok, rfl, hc, hr⟩ := HF
       replace hs := hs.frame hc
       refine ⟨fun _ => (⟨hs.g 3 rfl, hs.g 1 rfl⟩), dI 15 rfl (fun w => aC rfl) rfl rfl (dI 16 rfl (fun w => aI rfl rfl) rfl rfl (dI 17 rfl (fun w => aI rfl rfl) rfl rfl ?_))⟩
       all_goals
        refine dL 19 rfl (dR 0 hs eJ rfl rfl rfl hr.1 rfl hr.2.1 rfl (fun w hs => ⟨fun h => absurd h (by decide +kernel), dI 20 rfl (fun w => aD rfl) rfl rfl (bS (by decide +kernel) ?_)⟩))
        exact ⟨V1, b8, bcs, ok, hb8, aL rfl (aL rfl (aL rfl (aL rfl (aL rfl (bG _))))), hs, hr⟩
     refine aX hs z_30 rfl (fun b8 w hb8 he8 hs => ⟨fun _ => (⟨hs.g 3 rfl, hs.g 1 rfl⟩), dL 10 rfl (cF (cD rfl rfl ok_118 (c_KindOf hs.isIn r.type rfl)) rfl (fun v34 w HF => ?_))⟩)
     obtain ⟨rfl, hc⟩ := HF
     replace hs := hs.frame hc
     refine ⟨fun _ => (⟨hs.g 3 rfl, hs.g 1 rfl⟩), dL 14 rfl (cF (cD rfl rfl ok_126 (c_BodyK hs.isIn hb m2.at_ rfl (eE r.type) rfl (kind_pos _).1 (kind_pos _).2 r.length rfl (by omega) (by omega) h2l)) rfl (fun v38 w HF => ?_))⟩
     obtain ⟨V1, bcs, ok, rfl, hc, hr⟩ := HF
     replace hs := hs.frame hc
     refine ⟨fun _ => (⟨hs.g 3 rfl, hs.g 1 rfl⟩), dI 15 rfl (fun w => aC rfl) rfl rfl (dI 16 rfl (fun w => aI rfl rfl) rfl rfl (dI 17 rfl (fun w => aI rfl rfl) rfl rfl (dL 19 rfl (dR 0 hs eJ rfl rfl rfl hr.1 rfl hr.2.1 rfl (fun w hs => ⟨fun h => absurd h (by decide +kernel), dI 20 rfl (fun w => aD rfl) rfl rfl (bS (by decide +kernel) ?_)⟩)))))⟩
     exact ⟨V1, b8, bcs, ok, hb8, aL rfl (aL rfl (aL rfl (aL rfl (aL rfl (bG _))))), hs, hr⟩
   clear hs
   rintro ρ w ⟨V1, b8, bcs, ok, hb8, hsub, hs, hr⟩
   refine EW.weaken hsub (aF (dP (dM rfl rfl (lp (cS rfl) rfl (aH (bJ rfl (fun hc1 => ?_) (fun hc1 => ?_)))))))
   obtain rfl : ok = false := by simpa using hc1
   refine dP (lp (bM (vs := []) (ps := []) rfl bz_30) rfl (aJ (dR 2 hs eJ rfl rfl rfl rfl hzl (aG rfl) rfl (fun w hs => dN rfl rfl (aH (aV ⟨_, fX ⟨_, rfl, aP eJ (hs.g 2 rfl) rfl⟩ rfl, ?_⟩))))))
   exact ⟨V1, _, _, .other, none, m2, rfl, ((hs.drop hb8).drop hb6).drop hb4, by rw [hm2]; exact recordM_none hbeg (by rw [← e1]; exact hr.badB), MR.mk r0 hmv rfl, rfl, aG rfl, fun h => by cases h⟩
   obtain rfl : ok = true := by simpa using hc1
   refine aW (aF ?_)
   obtain ⟨x, hbd, vd, vt, vp, rfl, g1, g2, g3⟩ := hr.okB
   refine bV hs [3, 5] mixed (fun w hs => dI 0 rfl (fun w => aC rfl) rfl rfl (dI 1 rfl (fun w => aN rfl) rfl rfl (dI 2 rfl (fun w => aR fo_125_4 rfl) rfl rfl (dJ 3 rfl hs rfl (fun w hs => (aO rfl (aQ cH (hs.g 3 rfl) rfl))) rfl (dI 4 rfl (fun w => aR fo_30_4 rfl) rfl rfl (dJ 5 rfl hs rfl (fun w hs => (aO rfl (aQ eS (hs.g 1 rfl) rfl))) rfl (dI 6 rfl (fun w => (bY Tryz.underlying22 Tryz.underlying3 rfl (fV (c := r.length) rfl (by omega)))) rfl rfl (dI 7 rfl (fun w => (bN rfl rfl (fV (c := m2.at_ + r.length) (by omega) (by omega)))) rfl rfl (dI 8 rfl (fun w => aN rfl) rfl rfl (dI 9 rfl (fun w => aR fo_125_4 rfl) rfl rfl (dL 10 rfl (dQ 3 hs cH rfl rfl rfl rfl rfl rfl rfl (fun w hs => ⟨fun h => absurd h (by decide +kernel), bS (by decide +kernel) ?_⟩)))))))))))))
   refine dP (dM rfl rfl (lp (aN rfl) rfl (lp (aR fo_125_3 rfl) rfl (lp (aO rfl (aQ cH (hs.g 3 rfl) rfl)) rfl (lp (bN rfl rfl (fV (c := m2.index + 1) (by omega) (by omega))) rfl (lp (aN rfl) rfl (lp (aR fo_125_3 rfl) rfl (aJ (dQ 3 hs cH rfl rfl rfl rfl rfl rfl rfl (fun w hs => aH (aF ?_)))))))))))
   have hRR : RRec V1 (whole x r) (eY (whole x r) vd vt vp) := ⟨vd, vt, vp, rfl, g1, g2, g3⟩
   refine aB (lp (aO rfl (aP eJ (hs.g 0 rfl) rfl)) rfl (lp (aO rfl (aP eJ (hs.g 1 rfl) rfl)) rfl (aZ ok_180 rfl rfl (c_swhole hs.isIn g1.oneCell g2.oneCell g3.oneCell) rfl (fun v63 w HF => ?_))))
   obtain ⟨rfl, hc⟩ := HF
   replace hs := hs.frame hc
   refine aJ (dR 2 hs eJ rfl rfl rfl rfl hzl hRR.flat.1 rfl (fun w hs => dN rfl rfl (aH (aV ⟨_, fX ⟨_, rfl, aP eJ (hs.g 2 rfl) rfl⟩ rfl, ?_⟩))))
   exact ⟨V1, _, _, .ok, some (whole x r), { m2 with at_ := m2.at_ + r.length, index := m2.index + 1 }, rfl, ((hs.drop hb8).drop hb6).drop hb4, by rw [hm2]; exact recordM_some (m' := m1) hbeg (by rw [← e1]; exact hbd), MR.mk r0 hmv rfl, rfl, hRR.flat.1, fun _ => ⟨_, rfl, hRR⟩⟩
end
end Go.Proofs.YtgpfjlfkaoffeaaGreatDoor
namespace Go.Proofs.YtgpfjlfkaoffeaaGreatDoor
open Go
end Go.Proofs.YtgpfjlfkaoffeaaGreatDoor
namespace Go.Proofs.YtgpfjlfkaoffeaaGreatDoor
open Go
def seC (f : Nat) (va vr : Value) : List Value := .int .i64 f :: (headC 0 0 ++ [va, vr])
theorem seC_flat {f : Nat} {va vr : Value} (ha : va.oneCell' = true) (hr : vr.oneCell' = true) : Flat (seC f va vr) := bX rfl (fD (flat_headC _ _) (bX ha (bX hr eQ)))
theorem num_eq2 {k : EK} : ((k.num : Nat) : Int) = 2 ↔ k = .done := by cases k <;> simp [EK.num]
section
variable {V : Vw} {w0 : World} {l : List UInt8} {mv : Value} {bp : Nat} {E : TypeId} {m : PM} {cs : List Value}
set_option maxHeartbeats 4000000 in
theorem c_mquestion3 (hV : V.In w0) (hb : RB V mv l) (hown : w0.heap[bp]? = some (.cells cs.toArray E (0, 0))) (hvn : V bp = none) (hp : MR l mv m cs) (hwf : WF l m) (h2l : l.length ≤ 4294967296) :
  eC Tryz.prog 55 #[.pointer (some ⟨bp, 0, none⟩), .int .i64 3] w0 fun v w' => ∃ (V' : Vw) (cs' sc : List Value) (s : PSeen) (m' : PM), v = .agg sc.toArray ∧ St ⟨w0, V, V'⟩ w' [(bp, .cells cs'.toArray E (0, 0))] ∧ questionM l m 3 = (s, m') ∧ MR l mv m' cs' ∧ WF l m' ∧ RSeen V' s sc := by
 have hs := St.start1 hV hown (bU _ _) hvn
 refine aT [_, _] Tryz.func55 Tryz.ntmps55 Tryz.results55 rfl rfl (dP (aJ (aX hs z_81 rfl (fun b4 w hb4 he4 hs => ?_))))
 obtain ⟨zz, hzl, hs⟩ : ∃ zz : List Value, zz.length = 13 ∧ St ⟨w0, V, V⟩ w [(b4, .cells zz.toArray 81 (0, 0)), (bp, .cells cs.toArray E (0, 0))] := ⟨_, rfl, hs⟩
 refine aH (dP (lp (bM (vs := []) (ps := []) rfl bz_81) rfl (aJ (aX hs z_81 rfl (fun b5 w hb5 he5 hs => aJ (dR 0 hs k_81 rfl rfl rfl (by simp) (by simp) (aG (by decide +kernel)) rfl (fun w hs => ?_)))))))
 replace hs : St ⟨w0, V, V⟩ _ [(b5, .cells (seC 0 (.slice none 0 0) (.slice none 0 0)).toArray 81 (0, 0)), (b4, .cells zz.toArray 81 (0, 0)), (bp, .cells cs.toArray E (0, 0))] := hs
 refine aH (aF (dP (dM rfl rfl (aH (bQ (dP (lp (bI rfl rfl) rfl (dN rfl rfl (aH (aY rfl rfl (dP (lp (bI rfl rfl) rfl (dN rfl rfl ?_)))))))))))))
 refine aH (cO rfl rfl (bQ (dC (fun g : PM × Nat × List Value × List PAsk × List Value × Value × Vw => (eH (eH (eH emp 5 (.pointer (some ⟨b5, 0, none⟩))) 4 (.pointer (some ⟨b4, 0, none⟩))) 0 (.pointer (some ⟨bp, 0, none⟩)))) (fun g w' => Sl 77 3 ⟨w0, V, g.2.2.2.2.2.2⟩ w' [(b5, .cells (seC 0 g.2.2.2.2.2.1 (.slice none 0 0)).toArray 81 (0, 0)), (b4, .cells zz.toArray 81 (0, 0)), (bp, .cells g.2.2.1.toArray E (0, 0))] g.2.2.2.2.2.1 g.2.2.2.1.length g.2.2.2.2.1 ∧ Rows 3 (fun a c => c = askC a) g.2.2.2.1 g.2.2.2.2.1 ∧ MR l mv g.1 g.2.2.1 ∧ WF l g.1 ∧ fQ l g.2.1 g.1 g.2.2.2.1 = fQ l fuel m [] ∧ 1 ≤ g.2.1 ∧ (g.1.sec = 1 → count l 1 - g.1.index < g.2.1) ∧ g.2.1 + g.2.2.2.1.length = fuel) (fun g => g.2.1) (m, fuel, cs, [], [], .slice none 0 0, V) (aL rfl (aL rfl (aL rfl (bG _)))) ⟨Sl.nil hs, rfl, hp, hwf, rfl, (by decide : 1 ≤ fuel), fun _ => by have := cW l 1; show _ < 65537; omega, rfl⟩ ?_)))
 clear hs hp hwf
 rintro ⟨mm, f, cc, acc, xs, sv, Vc⟩ w ⟨hsl, hrows, hp, hwf, heq, hf1, hf2, hf3⟩
 simp only at hsl hrows hp hwf heq hf1 hf2 hf3 ⊢
 have hfu : fuel = 65537 := rfl
 obtain ⟨f, rfl⟩ : ∃ f', f = f' + 1 := ⟨f - 1, by omega⟩
 have hle := hsl.st.view
 replace hb := hb.mono hle
 obtain ⟨sa, scap, rfl⟩ := hsl.size
 obtain ⟨X, hX, hs⟩ := hsl.open
 refine bQ (dP (dM rfl rfl (aZ ok_121 rfl rfl (c_mask hs.isIn hb (hs.g 2 rfl) (hs.off (k := 2) rfl) hp hwf h2l) rfl (fun v40 w HF => ?_))))
 obtain ⟨cs', acs, k, ao, m', rfl, hc, hm, hp', hal, haf, ha⟩ := HF
 have hle1 := hc.view
 replace hs := hs.frame1 (k := 2) rfl rfl hc
 have hwf' := wf_askM hwf
 rw [hm] at hwf'
 rw [fQ, hm] at heq
 refine dM rfl rfl (dO rfl rfl rfl (dO rfl rfl rfl (aJ (aX hs z_77 rfl (fun b8 w hb8 he8 hs => aJ (dR 0 hs k_77 rfl rfl rfl hal rfl haf rfl (fun w hs => dN rfl rfl (aH (aF (dP (dM rfl rfl (lp (bI rfl rfl) rfl (aH (bH rfl (fun hc2 => ?_) (fun hc2 => ?_)))))))))))))))
 refine dP (lp (aO rfl (aP k_81 (hs.g 1 rfl) rfl)) rfl (aJ (dR 2 hs k_81 rfl rfl rfl rfl hzl (seC_flat rfl rfl) rfl (fun w hs => aH (aV ⟨_, fW ⟨_, rfl, aP k_81 (hs.g 2 rfl) rfl⟩, ?_⟩)))))
 have hkd := num_eq2.1 hc2
 subst hkd
 replace hs := ((SlX.close (L := [_, _, _, _]) hX hs).drop hb8).drop hb5 |>.drop hb4
 obtain ⟨V', hle', hsv, hs⟩ := hs.give
 have hRA : RAsks V' (.slice sa acc.length scap) acc := ⟨xs, hsv, hrows⟩
 exact ⟨V', _, _, _, m', rfl, hs, questionM_3 heq.symm, hp', hwf', rseen_asks hRA⟩
 refine aW (aF (dP (dM rfl rfl (lp (po_neq rfl rfl) rfl (aH (bH rfl (fun hc3 => ?_) (fun hc3 => ?_)))))))
 refine dP (dM rfl rfl (lp (bL rfl (by rfl) (bu_81_0 _)) rfl (aJ (dR 2 hs k_81 rfl rfl rfl rfl hzl (aG rfl) rfl (fun w hs => aH (aV ⟨_, fW ⟨_, rfl, aP k_81 (hs.g 2 rfl) rfl⟩, ?_⟩))))))
 have hall : fQ l fuel m [] = (k, [], m') := by
  rw [← heq]
  cases k <;> first | rfl | exact absurd rfl (num_bad hc3) | exact absurd rfl (fun h => hc2 (num_eq2.2 h))
 replace hs := (SlX.close (L := [_, _, _, _]) hX hs).st
 exact ⟨_, _, _, _, m', rfl, ((hs.drop hb8).drop hb5).drop hb4, questionM_3 hall, hp', hwf', by rw [if_neg (num_bad hc3)]; exact RSeen.fault _ k⟩
 refine aW ?_
 obtain rfl := num_ok hc3
 obtain ⟨n1, n2, n3, n4⟩ := askM_nxt hwf hm
 obtain ⟨x, rfl, hx⟩ := ha rfl
 refine aB (lp (aR fo_81_2 rfl) rfl (lp (aO rfl (aQ k_34 (hs.g 1 rfl) rfl)) rfl (lp (aO rfl (aP k_77 (hs.g 0 rfl) hal)) rfl (l_app1 (cl := acs) el_34 (SlX.close (L := [_, _, _, _]) hX hs) (fun _ => rfl) rfl rfl hal haf (by omega) (by omega) (by omega) rfl rfl (fun b53 sv' w hs => ?_)))))
 have hone := hs.oneCell
 obtain ⟨X2, hX2, hs⟩ := (hs.drop hb8).open
 skip
 refine lp (aR fo_81_2 rfl) rfl (aJ (dQ 0 hs k_34 rfl rfl rfl hone rfl rfl rfl (fun w hs => aH ?_)))
 have hs' := SlX.close (L := [_, _, _]) hX2 hs
 exact ⟨(m', f, _, acc ++ [x], _, sv', _), aL rfl (aL rfl (aL rfl (bG _))), ⟨by simp only [List.length_append]; exact hs', Rows.snoc hrows hx hal, hp', hwf', heq, by have := hf2 n1; simp only; omega, fun _ => by have := hf2 n1; simp only; omega, by simp; omega⟩, by simp only; omega⟩
end
end Go.Proofs.YtgpfjlfkaoffeaaGreatDoor

/- The reference's machine: a record passed over, a body. The reference's machine: a step of the questions, a step of a section. -/
import Derived.Test.YtmigokakpahgkaaGreatDoorG26
set_option linter.all false
namespace Go.Proofs.YtmigokakpahgkaaGreatDoor
open Go
theorem skipRec_no1 {l : List UInt8} {n : Nat} (h : pass l n = none) : skipRec l n = none := by unfold skipRec; rw [h]; rfl
theorem skipRec_no2 {l : List UInt8} {n o : Nat} (h : pass l n = some o) (h2 : ¬ o + 10 ≤ l.length) : skipRec l n = none := by unfold skipRec; rw [h]; simp only [Option.bind_some]; rw [if_neg h2]
theorem skipRec_no3 {l : List UInt8} {n o : Nat} (h : pass l n = some o) (h2 : o + 10 ≤ l.length) (h3 : ¬ o + 10 + w16 l (o + 8) ≤ l.length) : skipRec l n = none := by unfold skipRec; rw [h]; simp only [Option.bind_some]; rw [if_pos h2, if_neg h3]
theorem skipRec_yes {l : List UInt8} {n o : Nat} (h : pass l n = some o) (h2 : o + 10 ≤ l.length) (h3 : o + 10 + w16 l (o + 8) ≤ l.length) : skipRec l n = some (o + 10 + w16 l (o + 8)) := by unfold skipRec; rw [h]; simp only [Option.bind_some]; rw [if_pos h2, if_pos h3]
section
variable {V : Vw} {w0 : World} {l : List UInt8} {mv : Value} {bp : Nat} {E : TypeId} {m : PM} {cs : List Value}
set_option maxHeartbeats 4000000 in
theorem c_mpass (hV : V.In w0) (hb : RB V mv l) (hown : w0.heap[bp]? = some (.cells cs.toArray E (0, 0))) (hvn : V bp = none) (hp : MR l mv m cs) (hwf : WF l m) (h2l : l.length ≤ 4294967296) (s : Nat) {sv : Int} (hsv : sv = (s : Int) - 1) (h1 : 1 ≤ s) (h2 : s ≤ 4) :
  CallsV Tryz.prog 102 #[.pointer (some ⟨bp, 0, none⟩), .int .i64 sv] w0 fun v w' => ∃ (cs' : List Value) (k : EK) (m' : PM), v = .int .i64 (k.num : Nat) ∧ St ⟨w0, V, V⟩ w' [(bp, .cells cs'.toArray E (0, 0))] ∧ passM l m s = (k, m') ∧ MR l mv m' cs' := by
 subst hsv
 have hmv := hb.oneCell
 have hb0 := hb
 obtain ⟨a, cap, rfl, hcap, ha⟩ := hb0.form
 have hp0 := hp
 obtain ⟨bv, k1, k2, k3, k4, h, rfl, hbv, hk⟩ := hp0
 have hs := St.start1 hV hown (bU _ _) hvn
 refine aT [_, _] Tryz.func102 Tryz.ntmps102 Tryz.results102 rfl rfl (dP (dN rfl rfl (aH (aF (dG (fun ρ w => Sub (upd (upd (upd emp 21 (.bool (decide (m.valid = true ∧ m.sec = s)))) 1 (.int .i64 ((s : Int) - 1))) 0 (.pointer (some ⟨bp, 0, none⟩))) ρ ∧ St ⟨w0, V, V⟩ w [(bp, .cells (macC bv k1 k2 k3 k4 m h).toArray E (0, 0))]) ?_ ?_)))))
 cases hg : m.valid
 refine aB (dM rfl rfl (lp (aN rfl) rfl (lp (aR fo_76_5 rfl) rfl (lp (aO rfl (aQ k_4 (hs.g 0 rfl) rfl)) rfl (dM rfl rfl (aU rfl rfl hg rfl (aU rfl rfl hg rfl (aU rfl rfl hg rfl (aU rfl rfl hg rfl (aU rfl rfl hg rfl (aU rfl rfl hg rfl (lp (bW rfl (by assumption) rfl) rfl (aH ?_)))))))))))))
 have hval : (false : Bool) = decide (false = true ∧ m.sec = s) := (decide_eq_false (fun h => by cases h.1)).symm
 exact ⟨aL rfl (aL rfl (aL (congrArg (fun t => some (Value.bool t)) hval) (bG _))), hs⟩
 refine aB (dM rfl rfl (lp (aN rfl) rfl (lp (aR fo_76_5 rfl) rfl (lp (aO rfl (aQ k_4 (hs.g 0 rfl) rfl)) rfl (dM rfl rfl (lg rfl rfl hg (aC rfl) rfl (lg rfl rfl hg (aN rfl) rfl (lg rfl rfl hg (aR fo_76_2 rfl) rfl (lg rfl rfl hg (aO rfl (aQ cH (hs.g 0 rfl) rfl)) rfl (lg rfl rfl hg (aC rfl) rfl (lg rfl rfl hg (bI rfl rfl) rfl (lp (bO rfl (by assumption) rfl) rfl (aH ?_)))))))))))))
 have hval : decide (((m.sec : Int) - 1) = ((s : Int) - 1)) = decide (true = true ∧ m.sec = s) := decide_eq_decide.2 ⟨fun h => ⟨rfl, by omega⟩, fun h => by omega⟩
 exact ⟨aL rfl (aL rfl (aL (congrArg (fun t => some (Value.bool t)) hval) (bG _))), hs⟩
 clear hs
 rintro ρ w ⟨hsub, hs⟩
 refine EW.weaken hsub (bH rfl (fun hc0 => ?_) (fun hc0 => ?_))
 refine aF (aF ?_)
 obtain ⟨hv, hss⟩ := hc0
 obtain ⟨e0, rfl, rfl, rfl, rfl⟩ := hk (by omega)
 rw [e0] at hs
 obtain ⟨hidx, _, hat⟩ := hwf.idxV hv
 have hcn := cW l m.sec
 have hhl := hwf.hl
 refine bV hs [3, 8, 14] mixed (fun w hs => dI 0 rfl (fun w => aC rfl) rfl rfl (dI 1 rfl (fun w => aN rfl) rfl rfl (dI 2 rfl (fun w => aR dF rfl) rfl rfl (dJ 3 rfl hs rfl (fun w hs => (aO rfl (aQ cH (hs.g 0 rfl) rfl))) rfl (dI 4 rfl (fun w => aC rfl) rfl rfl (dI 5 rfl (fun w => aN rfl) rfl rfl (dI 6 rfl (fun w => aR fo_76_7 rfl) rfl rfl (dI 7 rfl (fun w => bD fo_72_4 rfl) rfl rfl (dJ 8 rfl hs rfl (fun w hs => (aO rfl (aQ cB (hs.g 0 rfl) rfl))) rfl (dI 9 rfl (fun w => (bY Tryz.underlying27 Tryz.underlying3 rfl (i64c (c := m.hlen) rfl (by omega)))) rfl rfl (dI 10 rfl (fun w => (bN rfl rfl (i64c (c := m.at_ + m.hlen) (by omega) (by omega)))) rfl rfl (dI 11 rfl (fun w => aC rfl) rfl rfl (dI 12 rfl (fun w => aN rfl) rfl rfl ?_)))))))))))))
 refine dI 13 rfl (fun w => aR fo_76_0 rfl) rfl rfl (dJ 14 rfl hs rfl (fun w hs => (aO rfl (aQ k_22 (hs.g 0 rfl) rfl))) rfl (dI 15 rfl (fun w => bC Tryz.underlying22 rfl) rfl rfl (dI 16 rfl (fun w => cQ rfl rfl) rfl rfl (bS (by decide +kernel) (bH rfl (fun hc1 => ?_) (fun hc1 => ?_))))))
 refine dP (dN rfl rfl (aH (aV ⟨_, res1 rfl, ?_⟩)))
 exact ⟨_, .other, m, rfl, hs, passM_short hv hss (by omega), MR.mk h hmv rfl⟩
 refine aW (aF (bV hs [3, 8] mixed (fun w hs => dI 0 rfl (fun w => aC rfl) rfl rfl (dI 1 rfl (fun w => aN rfl) rfl rfl (dI 2 rfl (fun w => aR dF rfl) rfl rfl (dJ 3 rfl hs rfl (fun w hs => (aO rfl (aQ cH (hs.g 0 rfl) rfl))) rfl (dI 4 rfl (fun w => aC rfl) rfl rfl (dI 5 rfl (fun w => aN rfl) rfl rfl (dI 6 rfl (fun w => aR fo_76_7 rfl) rfl rfl (dI 7 rfl (fun w => bD fo_72_4 rfl) rfl rfl (dJ 8 rfl hs rfl (fun w hs => (aO rfl (aQ cB (hs.g 0 rfl) rfl))) rfl (dI 9 rfl (fun w => (bY Tryz.underlying27 Tryz.underlying3 rfl (i64c (c := m.hlen) rfl (by omega)))) rfl rfl (dI 10 rfl (fun w => (bN rfl rfl (i64c (c := m.at_ + m.hlen) (by omega) (by omega)))) rfl rfl ?_)))))))))))))
 refine dI 11 rfl (fun w => aN rfl) rfl rfl (dI 12 rfl (fun w => aR dF rfl) rfl rfl (dL 13 rfl (dQ 0 hs cH rfl rfl rfl rfl rfl rfl rfl (fun w hs => ⟨fun h => absurd h (by decide +kernel), bS (by decide +kernel) (dP (dM rfl rfl (lp (aN rfl) rfl (lp (aR fo_76_5 rfl) rfl (aJ (dQ 0 hs k_4 rfl rfl rfl rfl rfl rfl rfl (fun w hs => aH (dP (dM rfl rfl (lp (aN rfl) rfl ?_))))))))))⟩))))
 refine lp (aR fo_76_3 rfl) rfl (lp (aO rfl (aQ cH (hs.g 0 rfl) rfl)) rfl (lp (bN rfl rfl (i64c (c := m.index + 1) (by omega) (by omega))) rfl (lp (aN rfl) rfl (lp (aR fo_76_3 rfl) rfl (aJ (dQ 0 hs cH rfl rfl rfl rfl rfl rfl rfl (fun w hs => aH (dP (dN rfl rfl (aH (aV ⟨_, res1 rfl, ?_⟩)))))))))))
 exact ⟨_, .ok, _, rfl, hs, passM_valid hv hss (by omega), MR.mk h hmv rfl⟩
 refine aW (aF (dP (dM rfl rfl (dM rfl rfl (aZ ok_138 rfl rfl (c_advance hs.isIn hmv (hs.g 0 rfl) (hs.off (k := 0) rfl) hp hwf.secs s rfl h1 h2) rfl (fun v64 w HF => ?_))))))
 obtain ⟨cs', k, m1, rfl, hc, hadv, hp'⟩ := HF
 replace hs := hs.frame1 (k := 0) rfl rfl hc
 refine dN rfl rfl (aH (dP (dM rfl rfl (lp (po_neq rfl rfl) rfl (aH (bH rfl (fun hc2 => ?_) (fun hc2 => ?_)))))))
 refine dP (dM rfl rfl (dN rfl rfl (aH (aV ⟨_, res1 rfl, ?_⟩))))
 exact ⟨_, k, m1, rfl, hs, passM_bad hc0 hadv (num_bad hc2), hp'⟩
 obtain rfl := num_ok hc2
 have hwf1 := wf_advance hwf h1 h2 hadv
 obtain ⟨hsec, hidx, _, _, _⟩ := advance_lt hwf h1 h2 hadv
 have hcn := cW l s
 have hat := hwf1.at_le
 obtain ⟨r, rfl⟩ := hp'.get (by omega)
 refine aW (aF (bV hs [3, 7] mixed (fun w hs => dI 0 rfl (fun w => aC rfl) rfl rfl (dI 1 rfl (fun w => aN rfl) rfl rfl (dI 2 rfl (fun w => aR fo_76_0 rfl) rfl rfl (dJ 3 rfl hs rfl (fun w hs => (aO rfl (aQ k_22 (hs.g 0 rfl) rfl))) rfl (dI 4 rfl (fun w => aC rfl) rfl rfl (dI 5 rfl (fun w => aN rfl) rfl rfl (dI 6 rfl (fun w => aR dF rfl) rfl rfl (dJ 7 rfl hs rfl (fun w hs => (aO rfl (aQ cH (hs.g 0 rfl) rfl))) rfl (dL 8 rfl (cF (cD rfl rfl ok_140 (c_Pass hs.isIn hb m1.at_ rfl (by omega) (by omega))) rfl (fun v77 w HF => ?_)))))))))))))
 obtain ⟨hc, o, ok, rfl, hr⟩ := HF
 replace hs := hs.frame hc
 have hol : ok = true → pass l m1.at_ = some o := fun h => by
  rcases hr with ⟨_, h1⟩ | ⟨h1, _⟩
  exact h1
  rw [h] at h1; cases h1
 refine ⟨fun h => absurd h (by decide +kernel), dI 9 rfl (fun w => aC rfl) rfl rfl (dI 10 rfl (fun w => aI rfl rfl) rfl rfl (dI 11 rfl (fun w => aI rfl rfl) rfl rfl (dI 12 rfl (fun w => aD rfl) rfl rfl (dI 13 rfl (fun w => aD rfl) rfl rfl (bS (by decide +kernel) (aF (dG (fun ρ w => Sub (upd (upd (upd emp 91 (.bool (decide (¬ (ok = true ∧ o + 10 ≤ l.length))))) 6 (.int .i64 o)) 0 (.pointer (some ⟨bp, 0, none⟩))) ρ ∧ St ⟨w0, V, V⟩ w [(bp, .cells (macC (.slice a l.length cap) (count l 1) (count l 2) (count l 3) (count l 4) m1 r).toArray E (0, 0))]) ?_ ?_)))))))⟩
 cases ok
 have hg : (!false) = !false := rfl
 refine aB (dM rfl rfl (lp (cS rfl) rfl (dM rfl rfl (aU rfl rfl hg rfl (aU rfl rfl hg rfl (aU rfl rfl hg rfl (aU rfl rfl hg rfl (aU rfl rfl hg rfl (aU rfl rfl hg rfl (aU rfl rfl hg rfl (aU rfl rfl hg rfl (lp (bO rfl rfl rfl) rfl (aH ?_)))))))))))))
 have hval : (true : Bool) = decide (¬ (false = true ∧ o + 10 ≤ l.length)) := (decide_eq_true (fun h => by cases h.1)).symm
 exact ⟨aL rfl (aL rfl (aL (congrArg (fun t => some (Value.bool t)) hval) (bG _))), hs⟩
 have hg : (!true) = false := rfl
 have hpl := pass_some (hol rfl)
 refine aB (dM rfl rfl (lp (cS rfl) rfl (dM rfl rfl (lg rfl rfl hg (aC rfl) rfl (lg rfl rfl hg (bN rfl rfl (i64c (c := o + 10) (by omega) (by omega))) rfl (lg rfl rfl hg (aC rfl) rfl (lg rfl rfl hg (aN rfl) rfl (lg rfl rfl hg (aR fo_76_0 rfl) rfl (lg rfl rfl hg (aO rfl (aQ k_22 (hs.g 0 rfl) rfl)) rfl (lg rfl rfl hg (bC Tryz.underlying22 rfl) rfl (lg rfl rfl hg (cQ rfl rfl) rfl (lp (bW rfl rfl rfl) rfl (aH ?_)))))))))))))
 have hval : decide ((l.length : Int) < ((o + 10 : Nat) : Int)) = decide (¬ (true = true ∧ o + 10 ≤ l.length)) := decide_eq_decide.2 ⟨fun h1 h2 => by omega, fun h1 => by rcases Nat.lt_or_ge l.length (o + 10) with h | h; omega; exact absurd ⟨rfl, h⟩ h1⟩
 exact ⟨aL rfl (aL rfl (aL (congrArg (fun t => some (Value.bool t)) hval) (bG _))), hs⟩
 clear hs
 rintro ρ w ⟨hsub, hs⟩
 refine EW.weaken hsub (bH rfl (fun hc3 => ?_) (fun hc3 => ?_))
 refine dP (dN rfl rfl (aH (aV ⟨_, res1 rfl, ?_⟩)))
 have hno : skipRec l m1.at_ = none := by
  rcases hr with ⟨rfl, h⟩ | ⟨_, h⟩
  exact skipRec_no2 h fun h2 => hc3 ⟨rfl, h2⟩
  exact skipRec_no1 h
 exact ⟨_, .other, m1, rfl, hs, passM_none hc0 hadv hno, MR.mk r hmv rfl⟩
 obtain ⟨rfl, hfit⟩ := Decidable.not_not.1 hc3
 have hpo := hol rfl
 refine aW (dP (dM rfl rfl (lp (aN rfl) rfl (lp (aR fo_76_0 rfl) rfl (lp (aO rfl (aQ k_22 (hs.g 0 rfl) rfl)) rfl (dM rfl rfl (lp (bN rfl rfl (i64c (c := o + 8) (by omega) (by omega))) rfl (aZ ok_136 rfl rfl (c_two hs.isIn hb (o + 8) rfl (by omega) (by omega)) rfl (fun v99 w HF => ?_)))))))))
 obtain ⟨hc, x, o', ok', rfl, hr2⟩ := HF
 replace hs := hs.frame hc
 obtain ⟨rfl, rfl, rfl⟩ := hr2.sure (by omega)
 have hwl := w16_lt l (o + 8)
 refine dM rfl rfl (dO rfl rfl rfl (dO rfl rfl rfl (dO rfl rfl rfl (dN rfl rfl (dN rfl rfl (dN rfl rfl (aH (aF (dP (dM rfl rfl (dM rfl rfl (lp (bY Tryz.underlying27 Tryz.underlying3 rfl (i64c (c := w16 l (o + 8)) rfl (by omega))) rfl (lp (bN rfl rfl (i64c (c := o + 10 + w16 l (o + 8)) (by omega) (by omega))) rfl ?_)))))))))))))
 refine dM rfl rfl (lp (aN rfl) rfl (lp (aR fo_76_0 rfl) rfl (lp (aO rfl (aQ k_22 (hs.g 0 rfl) rfl)) rfl (lp (bC Tryz.underlying22 rfl) rfl (lp (cQ rfl rfl) rfl (aH (bH rfl (fun hc4 => ?_) (fun hc4 => ?_))))))))
 refine dP (dN rfl rfl (aH (aV ⟨_, res1 rfl, ?_⟩)))
 exact ⟨_, .other, m1, rfl, hs, passM_none hc0 hadv (skipRec_no3 hpo hfit (by omega)), MR.mk r hmv rfl⟩
 refine aW (dP (dM rfl rfl (dM rfl rfl (dM rfl rfl (lp (bY Tryz.underlying27 Tryz.underlying3 rfl (i64c (c := w16 l (o + 8)) rfl (by omega))) rfl (lp (bN rfl rfl (i64c (c := o + 10 + w16 l (o + 8)) (by omega) (by omega))) rfl (lp (aN rfl) rfl (lp (aR dF rfl) rfl (aJ (dQ 0 hs cH rfl rfl rfl rfl rfl rfl rfl (fun w hs => aH (dP (dM rfl rfl (lp (aN rfl) rfl ?_))))))))))))))
 refine lp (aR fo_76_3 rfl) rfl (lp (aO rfl (aQ cH (hs.g 0 rfl) rfl)) rfl (lp (bN rfl rfl (i64c (c := m1.index + 1) (by omega) (by omega))) rfl (lp (aN rfl) rfl (lp (aR fo_76_3 rfl) rfl (aJ (dQ 0 hs cH rfl rfl rfl rfl rfl rfl rfl (fun w hs => aH (dP (dN rfl rfl (aH (aV ⟨_, res1 rfl, ?_⟩)))))))))))
 exact ⟨_, .ok, _, rfl, hs, passM_some hc0 hadv (skipRec_yes hpo hfit (by omega)), MR.mk r hmv rfl⟩
set_option maxHeartbeats 4000000 in
theorem c_mbody (hV : V.In w0) (hb : RB V mv l) (hown : w0.heap[bp]? = some (.cells cs.toArray E (0, 0))) (hvn : V bp = none) (hp : MR l mv m cs) (hwf : WF l m) (h2l : l.length ≤ 4294967296) (kd : Nat) {kv : Int} (hkv : kv = kd) (hk1 : 1 ≤ kd) (hk13 : kd ≤ 13) :
  CallsV Tryz.prog 36 #[.pointer (some ⟨bp, 0, none⟩), .int .i64 kv] w0 fun v w' => ∃ (V' : Vw) (cs' sc : List Value) (k : EK) (ro : Option PRec) (m' : PM), v = .agg sc.toArray ∧ St ⟨w0, V, V'⟩ w' [(bp, .cells cs'.toArray E (0, 0))] ∧ bodyM l m kd = (k, ro, m') ∧ MR l mv m' cs' ∧ WF l m' ∧ RSeen V' (onlyRec k ro) sc := by
 subst hkv
 have hmv := hb.oneCell
 have hp0 := hp
 obtain ⟨bv, k1, k2, k3, k4, h, rfl, hbv, hk⟩ := hp0
 have hs := St.start1 hV hown (bU _ _) hvn
 refine aT [_, _] Tryz.func36 Tryz.ntmps36 Tryz.results36 rfl rfl (dP (aJ (aX hs z_33 rfl (fun b4 w hb4 he4 hs => ?_))))
 obtain ⟨zz, hzl, hs⟩ : ∃ zz : List Value, zz.length = 13 ∧ St ⟨w0, V, V⟩ w [(b4, .cells zz.toArray 33 (0, 0)), (bp, .cells (macC bv k1 k2 k3 k4 m h).toArray E (0, 0))] := ⟨_, rfl, hs⟩
 refine aH (aF (dG (fun ρ w => Sub (upd (upd (upd (upd emp 25 (.bool (decide (m.valid = false ∨ (kd ≠ 13 ∧ kindOfType m.htype ≠ kd))))) 4 (.pointer (some ⟨b4, 0, none⟩))) 1 (.int .i64 kd)) 0 (.pointer (some ⟨bp, 0, none⟩))) ρ ∧ St ⟨w0, V, V⟩ w [(b4, .cells zz.toArray 33 (0, 0)), (bp, .cells (macC bv k1 k2 k3 k4 m h).toArray E (0, 0))]) ?_ ?_))
 rcases (by cases m.valid <;> simp <;> omega : m.valid = false ∨ (m.valid = true ∧ kd = 13) ∨ (m.valid = true ∧ kd ≠ 13)) with hv | ⟨hv, hkd⟩ | ⟨hv, hkd⟩
 have hg : (!m.valid) = true := by rw [hv]; rfl
 refine aB (dM rfl rfl (lp (aN rfl) rfl (lp (aR fo_76_5 rfl) rfl (lp (aO rfl (aQ k_4 (hs.g 1 rfl) rfl)) rfl (lp (cS rfl) rfl (dM rfl rfl (aU rfl rfl hg rfl (aU rfl rfl hg rfl (aU rfl rfl hg rfl (l_guard_undef rfl rfl rfl (l_guard_undef rfl rfl rfl (l_guard_undef rfl rfl rfl (l_guard_undef rfl rfl rfl ?_)))))))))))))
 refine l_guard_undef rfl rfl rfl (l_guard_undef rfl rfl rfl (l_guard_undef rfl rfl rfl (l_guard_undef rfl rfl rfl (aU rfl rfl hg rfl (lp (bO rfl hg rfl) rfl (aH ?_))))))
 have hval : (true : Bool) = decide (m.valid = false ∨ (kd ≠ 13 ∧ kindOfType m.htype ≠ kd)) := (decide_eq_true (.inl hv)).symm
 exact ⟨aL rfl (aL rfl (aL rfl (aL (congrArg (fun t => some (Value.bool t)) hval) (bG _)))), hs⟩
 have hg : (!m.valid) = false := by rw [hv]; rfl
 have hgb : decide ((kd : Int) ≠ 13) = false := decide_eq_false (by omega)
 refine aB (dM rfl rfl (lp (aN rfl) rfl (lp (aR fo_76_5 rfl) rfl (lp (aO rfl (aQ k_4 (hs.g 1 rfl) rfl)) rfl (lp (cS rfl) rfl (dM rfl rfl (lg rfl rfl hg (aC rfl) rfl (lg rfl rfl hg (po_neq rfl rfl) rfl (lg rfl rfl hg (aC rfl) rfl (aU rfl rfl hgb rfl (aU rfl rfl hgb rfl (aU rfl rfl hgb rfl (aU rfl rfl hgb rfl ?_)))))))))))))
 refine aU rfl rfl hgb rfl (aU rfl rfl hgb rfl (aU rfl rfl hgb rfl (aU rfl rfl hgb rfl (lg rfl rfl hg (bW rfl hgb rfl) rfl (lp (bW rfl hg rfl) rfl (aH ?_))))))
 have hval : (false : Bool) = decide (m.valid = false ∨ (kd ≠ 13 ∧ kindOfType m.htype ≠ kd)) := (decide_eq_false (by rintro (h | ⟨h, _⟩); rw [hv] at h; cases h; exact h hkd)).symm
 exact ⟨aL rfl (aL rfl (aL rfl (aL (congrArg (fun t => some (Value.bool t)) hval) (bG _)))), hs⟩
 have hg : (!m.valid) = false := by rw [hv]; rfl
 have hgb : decide ((kd : Int) ≠ 13) = true := decide_eq_true (by omega)
 refine aB (dM rfl rfl (lp (aN rfl) rfl (lp (aR fo_76_5 rfl) rfl (lp (aO rfl (aQ k_4 (hs.g 1 rfl) rfl)) rfl (lp (cS rfl) rfl (dM rfl rfl (lg rfl rfl hg (aC rfl) rfl (lg rfl rfl hg (po_neq rfl rfl) rfl (lg rfl rfl hg (aC rfl) rfl (lg rfl rfl hgb (aC rfl) rfl (lg rfl rfl hgb (aN rfl) rfl (lg rfl rfl hgb (bD fo_76_7 rfl) rfl (lg rfl rfl hgb (bD fo_72_1 rfl) rfl ?_)))))))))))))
 refine lg rfl rfl hgb (aO rfl (aQ cB (hs.g 1 rfl) rfl)) rfl (cX rfl rfl hgb (cF (cD rfl rfl ok_103 (c_KindOf hs.isIn m.htype rfl)) rfl (fun v21 w HF => ?_)))
 obtain ⟨rfl, hc⟩ := HF
 replace hs := hs.frame hc
 refine lg rfl rfl hgb (aC rfl) rfl (lg rfl rfl hgb (po_neq rfl rfl) rfl (lg rfl rfl hg (bO rfl hgb rfl) rfl (lp (bW rfl hg rfl) rfl (aH ?_))))
 have hval : decide (((kindOfType m.htype : Nat) : Int) ≠ (kd : Int)) = decide (m.valid = false ∨ (kd ≠ 13 ∧ kindOfType m.htype ≠ kd)) := decide_eq_decide.2 ⟨fun h => .inr ⟨hkd, by omega⟩, fun h => by rcases h with h | ⟨_, h⟩; rw [hv] at h; cases h; omega⟩
 exact ⟨aL rfl (aL rfl (aL rfl (aL (congrArg (fun t => some (Value.bool t)) hval) (bG _)))), hs⟩
 · clear hs
   rintro ρ w ⟨hsub, hs⟩
   refine EW.weaken hsub (bH rfl (fun hc0 => ?_) (fun hc0 => ?_))
   refine dP (lp (bL rfl (by rfl) (bu_33_0 _)) rfl (aJ (dR 0 hs bZ rfl rfl rfl rfl hzl (aG rfl) rfl (fun w hs => aH (aV ⟨_, res1 ⟨_, rfl, aP bZ (hs.g 0 rfl) rfl⟩, ?_⟩)))))
   exact ⟨V, _, _, .early, none, m, rfl, hs.drop hb4, bodyM_early hc0, hp, hwf, RSeen.fault V .early⟩
   · have hv : m.valid = true := by
      cases hv : m.valid
      exact absurd (.inl hv) hc0
      rfl
     obtain ⟨hs1, hs4⟩ := valid_sec hwf hv
     obtain ⟨e0, rfl, rfl, rfl, rfl⟩ := hk hs1
     rw [e0] at hs
     obtain ⟨hidx, _, hat⟩ := hwf.idxV hv
     have hcn := cW l m.sec
     have hhl := hwf.hl
     refine aW (dG (fun ρ w => ∃ (V1 : Vw) (b5 : Nat) (bcs : List Value) (ok : Bool), w0.heap.size ≤ b5 ∧ Sub (upd (upd (upd (upd (upd emp 6 (.bool ok)) 5 (.pointer (some ⟨b5, 0, none⟩))) 4 (.pointer (some ⟨b4, 0, none⟩))) 1 (.int .i64 kd)) 0 (.pointer (some ⟨bp, 0, none⟩))) ρ ∧ St ⟨w0, V, V1⟩ w [(b5, .cells bcs.toArray 72 (0, 0)), (b4, .cells zz.toArray 33 (0, 0)), (bp, .cells (macC mv (count l 1) (count l 2) (count l 3) (count l 4) m h).toArray E (0, 0))] ∧ SBody V1 l m.at_ kd m.hlen ok bcs) ?_ ?_)
     · refine e_draw (fun w2 => w2.heap[bp]? = some (.cells (macC mv (count l 1) (count l 2) (count l 3) (count l 4) m h).toArray E (0, 0))) [3, 7, 13] mixed (fun w hw => ?_)
       replace hs := hw.st hs
       refine dI 0 rfl (fun w => aC rfl) rfl rfl (dI 1 rfl (fun w => aN rfl) rfl rfl (dI 2 rfl (fun w => aR fo_76_0 rfl) rfl rfl (dJ 3 rfl ((hs.g 1 rfl)) rfl (fun w hf => (aO rfl (aQ k_22 hf rfl))) rfl (dI 4 rfl (fun w => aC rfl) rfl rfl (dI 5 rfl (fun w => aN rfl) rfl rfl (dI 6 rfl (fun w => aR dF rfl) rfl rfl (dJ 7 rfl ((hs.g 1 rfl)) rfl (fun w hf => (aO rfl (aQ cH hf rfl))) rfl (dI 8 rfl (fun w => aC rfl) rfl rfl (dI 9 rfl (fun w => aC rfl) rfl rfl (dI 10 rfl (fun w => aN rfl) rfl rfl (dI 11 rfl (fun w => aR fo_76_7 rfl) rfl rfl (dI 12 rfl (fun w => bD fo_72_4 rfl) rfl rfl (dJ 13 rfl ((hs.g 1 rfl)) rfl (fun w hf => (aO rfl (aQ cB hf rfl))) rfl ?_)))))))))))))
       refine dI 14 rfl (fun w => (bY Tryz.underlying27 Tryz.underlying3 rfl (i64c (c := m.hlen) rfl (by omega)))) rfl rfl (a_two 15 19 (by decide +kernel) rfl rfl ?_ ?_)
       refine cF (cD rfl rfl ok_104 (c_BodyK hs.isIn hb m.at_ rfl kd rfl hk1 hk13 m.hlen rfl (by omega) (by omega) h2l)) rfl (fun v43 w HF => ?_)
       obtain ⟨V1, bcs, ok, rfl, hc, hr⟩ := HF
       replace hs := hs.frame hc
       refine ⟨fun _ => (hs.g 1 rfl), dI 16 rfl (fun w => aC rfl) rfl rfl (dI 17 rfl (fun w => aI rfl rfl) rfl rfl (dI 18 rfl (fun w => aI rfl rfl) rfl rfl (dL 19 rfl (aX hs z_72 rfl (fun b5 w hb5 he5 hs => ⟨fun _ => (hs.g 2 rfl), ?_⟩)))))⟩
       rotate_left
       refine aX hs z_72 rfl (fun b5 w hb5 he5 hs => ⟨fun _ => (hs.g 2 rfl), dL 15 rfl (cF (cD rfl rfl ok_104 (c_BodyK hs.isIn hb m.at_ rfl kd rfl hk1 hk13 m.hlen rfl (by omega) (by omega) h2l)) rfl (fun v43 w HF => ?_))⟩)
       obtain ⟨V1, bcs, ok, rfl, hc, hr⟩ := HF
       replace hs := hs.frame hc
       refine ⟨fun _ => (hs.g 2 rfl), dI 16 rfl (fun w => aC rfl) rfl rfl (dI 17 rfl (fun w => aI rfl rfl) rfl rfl (dI 18 rfl (fun w => aI rfl rfl) rfl rfl ?_))⟩
       all_goals
        refine dL 20 rfl (dR 0 hs bT rfl rfl rfl hr.1 rfl hr.2.1 rfl (fun w hs => ⟨fun h => absurd h (by decide +kernel), dI 21 rfl (fun w => aD rfl) rfl rfl (bS (by decide +kernel) ?_)⟩))
        exact ⟨V1, b5, bcs, ok, hb5, aL rfl (aL rfl (aL rfl (aL rfl (aL rfl (bG _))))), hs, hr⟩
     clear hs
     rintro ρ w ⟨V1, b5, bcs, ok, hb5, hsub, hs, hr⟩
     refine EW.weaken hsub (aF (dP (dM rfl rfl (lp (cS rfl) rfl (aH (bJ rfl (fun hc1 => ?_) (fun hc1 => ?_)))))))
     obtain rfl : ok = false := by simpa using hc1
     refine dP (lp (bL rfl (by rfl) (bu_33_0 _)) rfl (aJ (dR 1 hs bZ rfl rfl rfl rfl hzl (aG rfl) rfl (fun w hs => aH (aV ⟨_, res1 ⟨_, rfl, aP bZ (hs.g 1 rfl) rfl⟩, ?_⟩)))))
     exact ⟨V1, _, _, .other, none, m, rfl, (hs.drop hb5).drop hb4, dE hc0 hr.badB, MR.mk h hmv rfl, hwf, RSeen.fault V1 .other⟩
     obtain rfl : ok = true := by simpa using hc1
     obtain ⟨x, hbd, vd, vt, vp, rfl, g1, g2, g3⟩ := hr.okB
     refine aW (dG (fun ρ w => Sub (upd (upd (upd emp 5 (.pointer (some ⟨b5, 0, none⟩))) 4 (.pointer (some ⟨b4, 0, none⟩))) 0 (.pointer (some ⟨bp, 0, none⟩))) ρ ∧ St ⟨w0, V, V1⟩ w [(b5, .cells (recC (if kd = 13 then { x with type := m.htype } else x) vd vt vp).toArray 72 (0, 0)), (b4, .cells zz.toArray 33 (0, 0)), (bp, .cells (macC mv (count l 1) (count l 2) (count l 3) (count l 4) m h).toArray E (0, 0))]) ?_ ?_)
     refine dP (dM rfl rfl (lp (bI rfl rfl) rfl (aH (bH rfl (fun hc2 => ?_) (fun hc2 => ?_)))))
     refine aB (dM rfl rfl (lp (aN rfl) rfl (lp (aR fo_76_7 rfl) rfl (lp (bD fo_72_1 rfl) rfl (lp (aO rfl (aQ cB (hs.g 2 rfl) rfl)) rfl (lp (aR fo_72_1 rfl) rfl (aJ (dQ 0 hs cB rfl rfl rfl rfl rfl rfl rfl (fun w hs => aH ?_)))))))))
     rw [if_pos (by omega)]
     exact ⟨aL rfl (aL rfl (aL rfl (bG _))), hs⟩
     refine aW ?_
     rw [if_neg (by omega)]
     exact ⟨aL rfl (aL rfl (aL rfl (bG _))), hs⟩
     clear hs
     rintro ρ w ⟨hsub, hs⟩
     refine EW.weaken hsub (aF ?_)
     obtain ⟨y, hy⟩ : ∃ y : PRec, y = (if kd = 13 then { x with type := m.htype } else x) := ⟨_, rfl⟩
     rw [← hy] at hs
     have hRR : RRec V1 y (recC y vd vt vp) := by
      rw [hy]
      split <;> exact ⟨vd, vt, vp, rfl, g1, g2, g3⟩
     refine bV hs [3, 8] mixed (fun w hs => dI 0 rfl (fun w => aC rfl) rfl rfl (dI 1 rfl (fun w => aN rfl) rfl rfl (dI 2 rfl (fun w => aR dF rfl) rfl rfl (dJ 3 rfl hs rfl (fun w hs => (aO rfl (aQ cH (hs.g 2 rfl) rfl))) rfl (dI 4 rfl (fun w => aC rfl) rfl rfl (dI 5 rfl (fun w => aN rfl) rfl rfl (dI 6 rfl (fun w => aR fo_76_7 rfl) rfl rfl (dI 7 rfl (fun w => bD fo_72_4 rfl) rfl rfl (dJ 8 rfl hs rfl (fun w hs => (aO rfl (aQ cB (hs.g 2 rfl) rfl))) rfl (dI 9 rfl (fun w => (bY Tryz.underlying27 Tryz.underlying3 rfl (i64c (c := m.hlen) rfl (by omega)))) rfl rfl (dI 10 rfl (fun w => (bN rfl rfl (i64c (c := m.at_ + m.hlen) (by omega) (by omega)))) rfl rfl (dI 11 rfl (fun w => aN rfl) rfl rfl (dI 12 rfl (fun w => aR dF rfl) rfl rfl ?_)))))))))))))
     refine dL 13 rfl (dQ 2 hs cH rfl rfl rfl rfl rfl rfl rfl (fun w hs => ⟨fun h => absurd h (by decide +kernel), bS (by decide +kernel) (dP (dM rfl rfl (lp (aN rfl) rfl (lp (aR fo_76_5 rfl) rfl (aJ (dQ 2 hs k_4 rfl rfl rfl rfl rfl rfl rfl (fun w hs => aH (dP (dM rfl rfl (lp (aN rfl) rfl (lp (aR fo_76_3 rfl) rfl (lp (aO rfl (aQ cH (hs.g 2 rfl) rfl)) rfl ?_))))))))))))⟩))
     refine lp (bN rfl rfl (i64c (c := m.index + 1) (by omega) (by omega))) rfl (lp (aN rfl) rfl (lp (aR fo_76_3 rfl) rfl (aJ (dQ 2 hs cH rfl rfl rfl rfl rfl rfl rfl (fun w hs => aH (dP (lp (aO rfl (aP bT (hs.g 0 rfl) rfl)) rfl (aJ (o_bslice (vls := [recC y vd vt vp]) el_31 hs rfl rfl rfl rfl (by simpa using hRR.flat.2) (by decide) (by decide) rfl (fun b81 w hb81 he81 hs => ?_))))))))))
     rw [show [recC y vd vt vp].flatten = recC y vd vt vp from List.append_nil _] at hs
     refine lp (bL rfl (by rfl) (bu_33_3 _)) rfl (aJ (dR 2 hs bZ rfl rfl rfl rfl hzl (aG rfl) rfl (fun w hs => aH (aV ⟨_, res1 ⟨_, rfl, aP bZ (hs.g 2 rfl) rfl⟩, ?_⟩))))
     obtain ⟨V', hle, hbv2, hs⟩ := hs.give hb81
     have hwf' := wf_bodyM hwf kd
     have hbm := dD hc0 hbd
     rw [hbm] at hwf'
     refine ⟨V', _, _, .ok, some y, _, rfl, (hs.drop hb5).drop hb4, by rw [hbm, hy], MR.mk h hmv rfl, hwf', rseen_recs (v := .slice (some ⟨b81, 0, none⟩) 1 1) ⟨recC y vd vt vp, SlV.cells (sp := []) (by rw [List.append_nil]; exact hbv2) rfl (Nat.le_refl _), Rows.one (hRR.mono hle) rfl⟩⟩
end
end Go.Proofs.YtmigokakpahgkaaGreatDoor
namespace Go.Proofs.YtmigokakpahgkaaGreatDoor
open Go
def seC (f : Nat) (va vr : Value) : List Value := .int .i64 f :: (headC 0 0 ++ [va, vr])
theorem seC_flat {f : Nat} {va vr : Value} (ha : va.oneCell' = true) (hr : vr.oneCell' = true) : Flat (seC f va vr) := bX rfl (flat_app (flat_headC _ _) (bX ha (bX hr flat_nil)))
theorem num_eq0 {k : EK} : ((k.num : Nat) : Int) = 0 ↔ k = .ok := ⟨fun h => num_zero.1 (by omega), fun h => by rw [h]; rfl⟩
theorem num_eq2 {k : EK} : ((k.num : Nat) : Int) = 2 ↔ k = .done := by cases k <;> simp [EK.num]
section
variable {V : Vw} {w0 : World} {l : List UInt8} {mv : Value} {bp : Nat} {E : TypeId} {m : PM} {cs : List Value}
set_option maxHeartbeats 4000000 in
theorem c_mquestion2 (hV : V.In w0) (hb : RB V mv l) (hown : w0.heap[bp]? = some (.cells cs.toArray E (0, 0))) (hvn : V bp = none) (hp : MR l mv m cs) (hwf : WF l m) (h2l : l.length ≤ 4294967296) :
  CallsV Tryz.prog 34 #[.pointer (some ⟨bp, 0, none⟩), .int .i64 2] w0 fun v w' => ∃ (V' : Vw) (cs' sc : List Value) (s : PSeen) (m' : PM), v = .agg sc.toArray ∧ St ⟨w0, V, V'⟩ w' [(bp, .cells cs'.toArray E (0, 0))] ∧ questionM l m 2 = (s, m') ∧ MR l mv m' cs' ∧ WF l m' ∧ RSeen V' s sc := by
 have hs := St.start1 hV hown (bU _ _) hvn
 refine aT [_, _] Tryz.func34 Tryz.ntmps34 Tryz.results34 rfl rfl (dP (aJ (aX hs z_33 rfl (fun b4 w hb4 he4 hs => ?_))))
 obtain ⟨zz, hzl, hs⟩ : ∃ zz : List Value, zz.length = 13 ∧ St ⟨w0, V, V⟩ w [(b4, .cells zz.toArray 33 (0, 0)), (bp, .cells cs.toArray E (0, 0))] := ⟨_, rfl, hs⟩
 refine aH (dP (lp (bM (vs := []) (ps := []) rfl bz_33) rfl (aJ (aX hs z_33 rfl (fun b5 w hb5 he5 hs => aJ (dR 0 hs bZ rfl rfl rfl (by simp) (by simp) (aG (by decide +kernel)) rfl (fun w hs => ?_)))))))
 replace hs : St ⟨w0, V, V⟩ _ [(b5, .cells (seC 0 (.slice none 0 0) (.slice none 0 0)).toArray 33 (0, 0)), (b4, .cells zz.toArray 33 (0, 0)), (bp, .cells cs.toArray E (0, 0))] := hs
 refine aH (aF (dP (dM rfl rfl (aH (bQ (dP (lp (bI rfl rfl) rfl (dN rfl rfl (aH (cO rfl rfl (dP (dM rfl rfl (aZ ok_98 rfl rfl (c_mask hs.isIn hb (hs.g 2 rfl) (hs.off (k := 2) rfl) hp hwf h2l) rfl (fun v26 w HF => ?_))))))))))))))
 obtain ⟨cs', acs, k, ao, m', rfl, hc, hm, hp', hal, haf, ha⟩ := HF
 replace hs := hs.frame1 (k := 2) rfl rfl hc
 have hwf' := wf_askM hwf
 rw [hm] at hwf'
 refine dM rfl rfl (dO rfl rfl rfl (dO rfl rfl rfl (aJ (aX hs z_106 rfl (fun b6 w hb6 he6 hs => aJ (dR 0 hs k_106 rfl rfl rfl hal rfl haf rfl (fun w hs => dN rfl rfl (aH (dG (fun ρ w => ∃ (V1 : Vw) (va : Value), Sub (upd (upd (upd (upd emp 7 (.int .i64 (k.num : Nat))) 5 (.pointer (some ⟨b5, 0, none⟩))) 4 (.pointer (some ⟨b4, 0, none⟩))) 0 (.pointer (some ⟨bp, 0, none⟩))) ρ ∧ St ⟨w0, V, V1⟩ w [(b6, .cells acs.toArray 106 (0, 0)), (b5, .cells (seC 0 va (.slice none 0 0)).toArray 33 (0, 0)), (b4, .cells zz.toArray 33 (0, 0)), (bp, .cells cs'.toArray E (0, 0))] ∧ RAsks V1 va (onlyAsk k ao)) ?_ ?_)))))))))
 refine dP (dM rfl rfl (lp (bI rfl rfl) rfl (aH (bH rfl (fun hc1 => ?_) (fun hc1 => ?_)))))
 refine aB (lp (aO rfl (aP k_106 (hs.g 0 rfl) hal)) rfl (aJ (o_bslice (vls := [acs]) el_30 hs rfl rfl rfl rfl (by simpa using hal) (by decide) (by decide) rfl (fun b32 w hb32 he32 hs => ?_))))
 rw [show [acs].flatten = acs from List.append_nil _] at hs
 obtain ⟨V1, hle1, hbv, hs⟩ := hs.give hb32
 refine lp (aR fo_33_2 rfl) rfl (aJ (dQ 1 hs k_30 rfl rfl rfl rfl rfl rfl rfl (fun w hs => aH ?_)))
 have hk := num_eq0.1 hc1
 subst hk
 obtain ⟨x, rfl, rfl⟩ := ha rfl
 exact ⟨V1, .slice (some ⟨b32, 0, none⟩) 1 1, aL rfl (aL rfl (aL rfl (aL rfl (bG _)))), hs, askC x, SlV.cells (sp := []) (by rw [List.append_nil]; exact hbv) rfl (Nat.le_refl _), Rows.one rfl rfl⟩
 refine aW ?_
 exact ⟨V, .slice none 0 0, aL rfl (aL rfl (aL rfl (aL rfl (bG _)))), hs, by rw [asks_bad (fun h => hc1 (num_eq0.2 h))]; exact RAsks.nil V⟩
 clear hs
 rintro ρ w ⟨V1, va, hsub, hs, hRA⟩
 refine EW.weaken hsub (aB (dM rfl rfl (lp (aR cV rfl) rfl (aJ (dQ 1 hs cH rfl rfl rfl rfl rfl rfl rfl (fun w hs => aH (dP (lp (aO rfl (aP bZ (hs.g 1 rfl) rfl)) rfl (aJ (dR 2 hs bZ rfl rfl rfl rfl hzl (seC_flat (f := k.num) hRA.oneCell rfl) rfl (fun w hs => aH (aV ⟨_, res1 ⟨_, rfl, aP bZ (hs.g 2 rfl) rfl⟩, ?_⟩))))))))))))
 exact ⟨V1, _, _, _, m', rfl, ((hs.drop hb6).drop hb5).drop hb4, questionM_2 hm, hp', hwf', ⟨va, .slice none 0 0, rfl, hRA, RRecs.nil V1⟩⟩
set_option maxHeartbeats 4000000 in
theorem c_mquestion3 (hV : V.In w0) (hb : RB V mv l) (hown : w0.heap[bp]? = some (.cells cs.toArray E (0, 0))) (hvn : V bp = none) (hp : MR l mv m cs) (hwf : WF l m) (h2l : l.length ≤ 4294967296) :
  CallsV Tryz.prog 34 #[.pointer (some ⟨bp, 0, none⟩), .int .i64 3] w0 fun v w' => ∃ (V' : Vw) (cs' sc : List Value) (s : PSeen) (m' : PM), v = .agg sc.toArray ∧ St ⟨w0, V, V'⟩ w' [(bp, .cells cs'.toArray E (0, 0))] ∧ questionM l m 3 = (s, m') ∧ MR l mv m' cs' ∧ WF l m' ∧ RSeen V' s sc := by
 have hs := St.start1 hV hown (bU _ _) hvn
 refine aT [_, _] Tryz.func34 Tryz.ntmps34 Tryz.results34 rfl rfl (dP (aJ (aX hs z_33 rfl (fun b4 w hb4 he4 hs => ?_))))
 obtain ⟨zz, hzl, hs⟩ : ∃ zz : List Value, zz.length = 13 ∧ St ⟨w0, V, V⟩ w [(b4, .cells zz.toArray 33 (0, 0)), (bp, .cells cs.toArray E (0, 0))] := ⟨_, rfl, hs⟩
 refine aH (dP (lp (bM (vs := []) (ps := []) rfl bz_33) rfl (aJ (aX hs z_33 rfl (fun b5 w hb5 he5 hs => aJ (dR 0 hs bZ rfl rfl rfl (by simp) (by simp) (aG (by decide +kernel)) rfl (fun w hs => ?_)))))))
 replace hs : St ⟨w0, V, V⟩ _ [(b5, .cells (seC 0 (.slice none 0 0) (.slice none 0 0)).toArray 33 (0, 0)), (b4, .cells zz.toArray 33 (0, 0)), (bp, .cells cs.toArray E (0, 0))] := hs
 refine aH (aF (dP (dM rfl rfl (aH (bQ (dP (lp (bI rfl rfl) rfl (dN rfl rfl (aH (aY rfl rfl (dP (lp (bI rfl rfl) rfl (dN rfl rfl ?_)))))))))))))
 refine aH (cO rfl rfl (bQ (dC (fun g : PM × Nat × List Value × List PAsk × List Value × Value × Vw => (upd (upd (upd emp 5 (.pointer (some ⟨b5, 0, none⟩))) 4 (.pointer (some ⟨b4, 0, none⟩))) 0 (.pointer (some ⟨bp, 0, none⟩)))) (fun g w' => Sl 106 3 ⟨w0, V, g.2.2.2.2.2.2⟩ w' [(b5, .cells (seC 0 g.2.2.2.2.2.1 (.slice none 0 0)).toArray 33 (0, 0)), (b4, .cells zz.toArray 33 (0, 0)), (bp, .cells g.2.2.1.toArray E (0, 0))] g.2.2.2.2.2.1 g.2.2.2.1.length g.2.2.2.2.1 ∧ Rows 3 (fun a c => c = askC a) g.2.2.2.1 g.2.2.2.2.1 ∧ MR l mv g.1 g.2.2.1 ∧ WF l g.1 ∧ allAsks l g.2.1 g.1 g.2.2.2.1 = allAsks l fuel m [] ∧ 1 ≤ g.2.1 ∧ (g.1.sec = 1 → count l 1 - g.1.index < g.2.1) ∧ g.2.1 + g.2.2.2.1.length = fuel) (fun g => g.2.1) (m, fuel, cs, [], [], .slice none 0 0, V) (aL rfl (aL rfl (aL rfl (bG _)))) ⟨Sl.nil hs, rfl, hp, hwf, rfl, (by decide : 1 ≤ fuel), fun _ => by have := cW l 1; show _ < 65537; omega, rfl⟩ ?_)))
 clear hs hp hwf
 rintro ⟨mm, f, cc, acc, xs, sv, Vc⟩ w ⟨hsl, hrows, hp, hwf, heq, hf1, hf2, hf3⟩
 simp only at hsl hrows hp hwf heq hf1 hf2 hf3 ⊢
 have hfu : fuel = 65537 := rfl
 obtain ⟨f, rfl⟩ : ∃ f', f = f' + 1 := ⟨f - 1, by omega⟩
 have hle := hsl.st.view
 replace hb := hb.mono hle
 obtain ⟨sa, scap, rfl⟩ := hsl.size
 obtain ⟨X, hX, hs⟩ := hsl.open
 refine bQ (dP (dM rfl rfl (aZ ok_98 rfl rfl (c_mask hs.isIn hb (hs.g 2 rfl) (hs.off (k := 2) rfl) hp hwf h2l) rfl (fun v40 w HF => ?_))))
 obtain ⟨cs', acs, k, ao, m', rfl, hc, hm, hp', hal, haf, ha⟩ := HF
 have hle1 := hc.view
 replace hs := hs.frame1 (k := 2) rfl rfl hc
 have hwf' := wf_askM hwf
 rw [hm] at hwf'
 rw [allAsks, hm] at heq
 refine dM rfl rfl (dO rfl rfl rfl (dO rfl rfl rfl (aJ (aX hs z_106 rfl (fun b8 w hb8 he8 hs => aJ (dR 0 hs k_106 rfl rfl rfl hal rfl haf rfl (fun w hs => dN rfl rfl (aH (aF (dP (dM rfl rfl (lp (bI rfl rfl) rfl (aH (bH rfl (fun hc2 => ?_) (fun hc2 => ?_)))))))))))))))
 refine dP (lp (aO rfl (aP bZ (hs.g 1 rfl) rfl)) rfl (aJ (dR 2 hs bZ rfl rfl rfl rfl hzl (seC_flat rfl rfl) rfl (fun w hs => aH (aV ⟨_, res1 ⟨_, rfl, aP bZ (hs.g 2 rfl) rfl⟩, ?_⟩)))))
 have hkd := num_eq2.1 hc2
 subst hkd
 replace hs := ((SlX.close (L := [_, _, _, _]) hX hs).drop hb8).drop hb5 |>.drop hb4
 obtain ⟨V', hle', hsv, hs⟩ := hs.give
 have hRA : RAsks V' (.slice sa acc.length scap) acc := ⟨xs, hsv, hrows⟩
 exact ⟨V', _, _, _, m', rfl, hs, questionM_3 heq.symm, hp', hwf', rseen_asks hRA⟩
 refine aW (aF (dP (dM rfl rfl (lp (po_neq rfl rfl) rfl (aH (bH rfl (fun hc3 => ?_) (fun hc3 => ?_)))))))
 refine dP (dM rfl rfl (lp (bL rfl (by rfl) (bu_33_0 _)) rfl (aJ (dR 2 hs bZ rfl rfl rfl rfl hzl (aG rfl) rfl (fun w hs => aH (aV ⟨_, res1 ⟨_, rfl, aP bZ (hs.g 2 rfl) rfl⟩, ?_⟩))))))
 have hall : allAsks l fuel m [] = (k, [], m') := by
  rw [← heq]
  cases k <;> first | rfl | exact absurd rfl (num_bad hc3) | exact absurd rfl (fun h => hc2 (num_eq2.2 h))
 replace hs := (SlX.close (L := [_, _, _, _]) hX hs).st
 exact ⟨_, _, _, _, m', rfl, ((hs.drop hb8).drop hb5).drop hb4, questionM_3 hall, hp', hwf', by rw [if_neg (num_bad hc3)]; exact RSeen.fault _ k⟩
 refine aW ?_
 obtain rfl := num_ok hc3
 obtain ⟨n1, n2, n3, n4⟩ := askM_nxt hwf hm
 obtain ⟨x, rfl, hx⟩ := ha rfl
 refine aB (lp (aR fo_33_2 rfl) rfl (lp (aO rfl (aQ k_30 (hs.g 1 rfl) rfl)) rfl (lp (aO rfl (aP k_106 (hs.g 0 rfl) hal)) rfl (l_app1 (cl := acs) el_30 (SlX.close (L := [_, _, _, _]) hX hs) (fun _ => rfl) rfl rfl hal haf (by omega) (by omega) (by omega) rfl rfl (fun b53 sv' w hs => ?_)))))
 have hone := hs.oneCell
 obtain ⟨X2, hX2, hs⟩ := (hs.drop hb8).open
 skip
 refine lp (aR fo_33_2 rfl) rfl (aJ (dQ 0 hs k_30 rfl rfl rfl hone rfl rfl rfl (fun w hs => aH ?_)))
 have hs' := SlX.close (L := [_, _, _]) hX2 hs
 exact ⟨(m', f, _, acc ++ [x], _, sv', _), aL rfl (aL rfl (aL rfl (bG _))), ⟨by simp only [List.length_append]; exact hs', Rows.snoc hrows hx hal, hp', hwf', heq, by have := hf2 n1; simp only; omega, fun _ => by have := hf2 n1; simp only; omega, by simp; omega⟩, by simp only; omega⟩
set_option maxHeartbeats 4000000 in
theorem c_mquestion4 (hV : V.In w0) (hb : RB V mv l) (hown : w0.heap[bp]? = some (.cells cs.toArray E (0, 0))) (hvn : V bp = none) (hp : MR l mv m cs) (hwf : WF l m) (h2l : l.length ≤ 4294967296) :
  CallsV Tryz.prog 34 #[.pointer (some ⟨bp, 0, none⟩), .int .i64 4] w0 fun v w' => ∃ (V' : Vw) (cs' sc : List Value) (s : PSeen) (m' : PM), v = .agg sc.toArray ∧ St ⟨w0, V, V'⟩ w' [(bp, .cells cs'.toArray E (0, 0))] ∧ questionM l m 4 = (s, m') ∧ MR l mv m' cs' ∧ WF l m' ∧ RSeen V' s sc := by
 have hs := St.start1 hV hown (bU _ _) hvn
 refine aT [_, _] Tryz.func34 Tryz.ntmps34 Tryz.results34 rfl rfl (dP (aJ (aX hs z_33 rfl (fun b4 w hb4 he4 hs => ?_))))
 obtain ⟨zz, hzl, hs⟩ : ∃ zz : List Value, zz.length = 13 ∧ St ⟨w0, V, V⟩ w [(b4, .cells zz.toArray 33 (0, 0)), (bp, .cells cs.toArray E (0, 0))] := ⟨_, rfl, hs⟩
 refine aH (dP (lp (bM (vs := []) (ps := []) rfl bz_33) rfl (aJ (aX hs z_33 rfl (fun b5 w hb5 he5 hs => aJ (dR 0 hs bZ rfl rfl rfl (by simp) (by simp) (aG (by decide +kernel)) rfl (fun w hs => ?_)))))))
 replace hs : St ⟨w0, V, V⟩ _ [(b5, .cells (seC 0 (.slice none 0 0) (.slice none 0 0)).toArray 33 (0, 0)), (b4, .cells zz.toArray 33 (0, 0)), (bp, .cells cs.toArray E (0, 0))] := hs
 refine aH (aF (dP (dM rfl rfl (aH (bQ (dP (lp (bI rfl rfl) rfl (dN rfl rfl (aH (aY rfl rfl (dP (lp (bI rfl rfl) rfl (dN rfl rfl ?_)))))))))))))
 refine aH (aY rfl rfl (dP (lp (bI rfl rfl) rfl (dN rfl rfl (aH (cO rfl rfl (aB (dM rfl rfl (aZ ok_99 rfl rfl (c_mpassAsk hs.isIn hb (hs.g 2 rfl) (hs.off (k := 2) rfl) hp hwf h2l) rfl (fun v59 w HF => ?_))))))))))
 obtain ⟨cs', k, m', rfl, hc, hm, hp'⟩ := HF
 replace hs := hs.frame1 (k := 2) rfl rfl hc
 have hwf' := wf_passAskM hwf
 rw [hm] at hwf'
 refine lp (aR cV rfl) rfl (aJ (dQ 0 hs cH rfl rfl rfl rfl rfl rfl rfl (fun w hs => aH (dP (lp (aO rfl (aP bZ (hs.g 0 rfl) rfl)) rfl (aJ (dR 1 hs bZ rfl rfl rfl rfl hzl (seC_flat (f := k.num) rfl rfl) rfl (fun w hs => aH (aV ⟨_, res1 ⟨_, rfl, aP bZ (hs.g 1 rfl) rfl⟩, ?_⟩)))))))))
 exact ⟨V, _, _, _, m', rfl, (hs.drop hb5).drop hb4, questionM_4 hm, hp', hwf', RSeen.fault V k⟩
set_option maxHeartbeats 4000000 in
theorem c_mquestion5 (hV : V.In w0) (hb : RB V mv l) (hown : w0.heap[bp]? = some (.cells cs.toArray E (0, 0))) (hvn : V bp = none) (hp : MR l mv m cs) (hwf : WF l m) (h2l : l.length ≤ 4294967296) :
  CallsV Tryz.prog 34 #[.pointer (some ⟨bp, 0, none⟩), .int .i64 5] w0 fun v w' => ∃ (V' : Vw) (cs' sc : List Value) (s : PSeen) (m' : PM), v = .agg sc.toArray ∧ St ⟨w0, V, V'⟩ w' [(bp, .cells cs'.toArray E (0, 0))] ∧ questionM l m 5 = (s, m') ∧ MR l mv m' cs' ∧ WF l m' ∧ RSeen V' s sc := by
 have hs := St.start1 hV hown (bU _ _) hvn
 refine aT [_, _] Tryz.func34 Tryz.ntmps34 Tryz.results34 rfl rfl (dP (aJ (aX hs z_33 rfl (fun b4 w hb4 he4 hs => ?_))))
 obtain ⟨zz, hzl, hs⟩ : ∃ zz : List Value, zz.length = 13 ∧ St ⟨w0, V, V⟩ w [(b4, .cells zz.toArray 33 (0, 0)), (bp, .cells cs.toArray E (0, 0))] := ⟨_, rfl, hs⟩
 refine aH (dP (lp (bM (vs := []) (ps := []) rfl bz_33) rfl (aJ (aX hs z_33 rfl (fun b5 w hb5 he5 hs => aJ (dR 0 hs bZ rfl rfl rfl (by simp) (by simp) (aG (by decide +kernel)) rfl (fun w hs => ?_)))))))
 replace hs : St ⟨w0, V, V⟩ _ [(b5, .cells (seC 0 (.slice none 0 0) (.slice none 0 0)).toArray 33 (0, 0)), (b4, .cells zz.toArray 33 (0, 0)), (bp, .cells cs.toArray E (0, 0))] := hs
 refine aH (aF (dP (dM rfl rfl (aH (bQ (dP (lp (bI rfl rfl) rfl (dN rfl rfl (aH (aY rfl rfl (dP (lp (bI rfl rfl) rfl (dN rfl rfl ?_)))))))))))))
 refine aH (aY rfl rfl (dP (lp (bI rfl rfl) rfl (dN rfl rfl (aH (aY rfl rfl (aF (bQ (dC (fun _ : PM × Nat × List Value × EK => (upd (upd (upd emp 5 (.pointer (some ⟨b5, 0, none⟩))) 4 (.pointer (some ⟨b4, 0, none⟩))) 0 (.pointer (some ⟨bp, 0, none⟩)))) (fun g w' => St ⟨w0, V, V⟩ w' [(b5, .cells (seC g.2.2.2.num (.slice none 0 0) (.slice none 0 0)).toArray 33 (0, 0)), (b4, .cells zz.toArray 33 (0, 0)), (bp, .cells g.2.2.1.toArray E (0, 0))] ∧ MR l mv g.1 g.2.2.1 ∧ WF l g.1 ∧ (g.2.2.2 = .ok → allPassAsk l g.2.1 g.1 = allPassAsk l fuel m ∧ 1 ≤ g.2.1 ∧ (g.1.sec = 1 → count l 1 - g.1.index < g.2.1)) ∧ (g.2.2.2 ≠ .ok → allPassAsk l fuel m = (if g.2.2.2 = .done then .ok else g.2.2.2, g.1))) (fun g => if g.2.2.2 = .ok then g.2.1 else 0) (m, fuel, cs, .ok) (aL rfl (aL rfl (aL rfl (bG _)))) ⟨hs, hp, hwf, fun _ => ⟨rfl, (by decide : 1 ≤ fuel), fun _ => by have := cW l 1; show _ < 65537; omega⟩, fun h => absurd rfl h⟩ ?_)))))))))
 clear hs hp hwf
 rintro ⟨mm, f, cc, k0⟩ w ⟨hs, hp, hwf, hok, hno⟩
 simp only at hs hp hwf hok hno ⊢
 refine aF (dP (lp (aR cV rfl) rfl (lp (aO rfl (aQ cH (hs.g 0 rfl) rfl)) rfl (lp (bI rfl rfl) rfl (aH (bH rfl (fun hc3 => ?_) (fun hc3 => ?_)))))))
 refine aW (bQ ?_)
 have hk0 := num_eq0.1 hc3
 subst hk0
 obtain ⟨heq, hf1, hf2⟩ := hok rfl
 obtain ⟨f, rfl⟩ : ∃ f', f = f' + 1 := ⟨f - 1, by omega⟩
 refine aB (dM rfl rfl (aZ ok_99 rfl rfl (c_mpassAsk hs.isIn hb (hs.g 2 rfl) (hs.off (k := 2) rfl) hp hwf h2l) rfl (fun v16 w HF => ?_)))
 obtain ⟨cs', k, m', rfl, hc, hm, hp'⟩ := HF
 replace hs := hs.frame1 (k := 2) rfl rfl hc
 have hwf' := wf_passAskM hwf
 rw [hm] at hwf'
 rw [allPassAsk, hm] at heq
 refine lp (aR cV rfl) rfl (aJ (dQ 0 hs cH rfl rfl rfl rfl rfl rfl rfl (fun w hs => aH ⟨(m', f, cs', k), aL rfl (aL rfl (aL rfl (bG _))), ⟨hs, hp', hwf', fun h => ?_, fun h => ?_⟩, ?_⟩)))
 simp only at h; subst h
 obtain ⟨n1, n2, n3, n4⟩ := passAskM_nxt hwf hm
 exact ⟨heq, by have := hf2 n1; simp only; omega, fun _ => by have := hf2 n1; simp only; omega⟩
 simp only at h ⊢
 rw [← heq]
 cases k <;> first | rfl | exact absurd rfl h
 simp only; rw [if_pos trivial]; split <;> omega
 refine e_exit (aF ?_)
 have hk0 : k0 ≠ .ok := fun h => hc3 (num_eq0.2 h)
 have hall := hno hk0
 refine aB (lp (aR cV rfl) rfl (lp (aO rfl (aQ cH (hs.g 0 rfl) rfl)) rfl (lp (bI rfl rfl) rfl (aH (bH rfl (fun hc4 => ?_) (fun hc4 => ?_))))))
 have hk2 := num_eq2.1 hc4
 subst hk2
 rw [if_pos rfl] at hall
 refine aB (lp (aR cV rfl) rfl (aJ (dQ 0 hs cH rfl rfl rfl rfl rfl rfl rfl (fun w hs => aH (dP (lp (aO rfl (aP bZ (hs.g 0 rfl) rfl)) rfl (aJ (dR 1 hs bZ rfl rfl rfl rfl hzl (aG rfl) rfl (fun w hs => aH (aV ⟨_, res1 ⟨_, rfl, aP bZ (hs.g 1 rfl) rfl⟩, ?_⟩))))))))))
 exact ⟨V, _, _, _, mm, rfl, (hs.drop hb5).drop hb4, questionM_5 hall, hp, hwf, RSeen.fault V .ok⟩
 refine aW (dP (lp (aO rfl (aP bZ (hs.g 0 rfl) rfl)) rfl (aJ (dR 1 hs bZ rfl rfl rfl rfl hzl (aG rfl) rfl (fun w hs => aH (aV ⟨_, res1 ⟨_, rfl, aP bZ (hs.g 1 rfl) rfl⟩, ?_⟩))))))
 rw [if_neg (fun h => hc4 (num_eq2.2 h))] at hall
 exact ⟨V, _, _, _, mm, rfl, (hs.drop hb5).drop hb4, questionM_5 hall, hp, hwf, RSeen.fault V k0⟩
end
end Go.Proofs.YtmigokakpahgkaaGreatDoor

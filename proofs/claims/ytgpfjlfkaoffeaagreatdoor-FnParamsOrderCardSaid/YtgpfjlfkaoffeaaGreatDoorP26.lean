/- The parser: questions. -/
import Derived.Test.YtgpfjlfkaoffeaaGreatDoorP20
set_option linter.all false
namespace Go.Proofs.YtgpfjlfkaoffeaaGreatDoor
open Go
def RQ (a : PAsk) (c : List Value) : Prop := c = nmC a.name a.name.length ++ [.int .u16 a.type, .int .u16 a.cls] ∧ a.name.length ≤ 254
theorem RQ.flat {a : PAsk} {c : List Value} (h : RQ a c) : c.length = 258 ∧ Flat c := by
 obtain ⟨rfl, h⟩ := h
 exact ⟨by rw [List.length_append, cM (by omega)]; rfl, flat_app (flat_nmC _ _) (aG rfl)⟩
def RQs (V : Vw) (v : Value) (l : List PAsk) : Prop := ∃ xs, SlV V 258 v l.length xs ∧ Rows 258 RQ l xs
section
variable {l : List UInt8} {m m' m1 : PM} {k : EK}
theorem passAskM_bad (h : advance l m 1 = (k, m1)) (hk : k ≠ .ok) : passAskM l m = (k, m1) := by
 unfold passAskM; rw [h]; cases k <;> first | rfl | exact absurd rfl hk
theorem passAskM_none (h : advance l m 1 = (.ok, m1)) (hh : skipAsk l m1.at_ = none) : passAskM l m = (.other, m1) := by
 unfold passAskM; rw [h]; simp only [hh]
theorem passAskM_some {e : Nat} (h : advance l m 1 = (.ok, m1)) (hh : skipAsk l m1.at_ = some e) : passAskM l m = (.ok, { m1 with at_ := e, index := m1.index + 1 }) := by
 unfold passAskM; rw [h]; simp only [hh]
theorem askM_bad (h : advance l m 1 = (k, m1)) (hk : k ≠ .ok) : askM l m = (k, none, m1) := by
 unfold askM; rw [h]; cases k <;> first | rfl | exact absurd rfl hk
theorem askM_none (h : advance l m 1 = (.ok, m1)) (hh : ask l m1.at_ = none) : askM l m = (.other, none, m1) := by
 unfold askM; rw [h]; simp only [hh]
theorem askM_some {a : PAsk} {e : Nat} (h : advance l m 1 = (.ok, m1)) (hh : ask l m1.at_ = some (a, e)) : askM l m = (.ok, some a, { m1 with at_ := e, index := m1.index + 1 }) := by
 unfold askM; rw [h]; simp only [hh]
def Nxt (l : List UInt8) (s : Nat) (m m' : PM) : Prop := m.sec = s ∧ m'.sec = s ∧ m'.index = m.index + 1 ∧ m.index < count l s
theorem passAskM_nxt (hwf : WF l m) (h : passAskM l m = (.ok, m')) : Nxt l 1 m m' := by
 obtain ⟨k, m1, hadv⟩ : ∃ k m1, advance l m 1 = (k, m1) := ⟨_, _, rfl⟩
 by_cases hk : k = .ok
 subst hk
 obtain ⟨e1, e2, e3, e4, e5⟩ := advance_lt hwf (by decide) (by decide) hadv
 obtain ⟨f1, _, _⟩ := advance_ok hadv
 cases hh : skipAsk l m1.at_ with
 | none => rw [passAskM_none hadv hh] at h; cases h
 | some e => rw [passAskM_some hadv hh] at h; cases h; exact ⟨f1, e1, by rw [← e4], by rw [← e4]; exact e2⟩
 rw [passAskM_bad hadv hk] at h; cases h; exact absurd rfl hk
theorem askM_nxt {a : Option PAsk} (hwf : WF l m) (h : askM l m = (.ok, a, m')) : Nxt l 1 m m' := by
 obtain ⟨k, m1, hadv⟩ : ∃ k m1, advance l m 1 = (k, m1) := ⟨_, _, rfl⟩
 by_cases hk : k = .ok
 subst hk
 obtain ⟨e1, e2, e3, e4, e5⟩ := advance_lt hwf (by decide) (by decide) hadv
 obtain ⟨f1, _, _⟩ := advance_ok hadv
 cases hh : ask l m1.at_ with
 | none => rw [askM_none hadv hh] at h; cases h
 | some p => obtain ⟨a, e⟩ := p; rw [askM_some hadv hh] at h; cases h; exact ⟨f1, e1, by rw [← e4], by rw [← e4]; exact e2⟩
 rw [askM_bad hadv hk] at h; cases h; exact absurd rfl hk
end
section
variable {A : Nat → Addr} {V : Vw} {w0 : World} {l : List UInt8} {mv : Value} {bp : Nat} {E : TypeId} {m : PM} {cs : List Value}
theorem c_skipQuestion (hG : Gl A V) (hV : V.In w0) (hb : RB V mv l) (hown : w0.heap[bp]? = some (.cells cs.toArray E (0, 0))) (hvn : V bp = none) (hp : PR l mv m cs) (hwf : WF l m) (h2l : l.length ≤ 4294967296) :
  CallsV Tryz.prog 69 #[.pointer (some ⟨bp, 0, none⟩)] w0 fun v w' => ∃ (cs' : List Value) (k : EK) (m' : PM), St ⟨w0, V, V⟩ w' [(bp, .cells cs'.toArray E (0, 0))] ∧ passAskM l m = (k, m') ∧ PR l mv m' cs' ∧ ErrV A v k := by
 have hs := St.start1 hV hown (bU _ _) hvn
 refine aT [_] Tryz.func69 Tryz.ntmps69 Tryz.results69 rfl rfl (dP (dN rfl rfl (aH (aF (dP (dM rfl rfl (aZ ok_150 rfl rfl (c_checkAdvance hG hs.isIn (hs.g 0 rfl) (hs.off (k := 0) rfl) hp hwf.secs 1 rfl (by decide) (by decide)) rfl (fun v7 w HF => ?_))))))))
 obtain ⟨cs', hc, hp, he⟩ := HF
 replace hs := hs.frame1 (k := 0) rfl rfl hc
 obtain ⟨k, m1, hadv⟩ : ∃ k m1, advance l m 1 = (k, m1) := ⟨_, _, rfl⟩
 rw [hadv] at hp he
 simp only at hp he
 refine dN rfl rfl (aH (dP (dM rfl rfl (lp (bB he rfl) rfl (aH (bH rfl (fun hc0 => ?_) (fun hc0 => ?_)))))))
 refine dP (dM rfl rfl (dN rfl rfl (aH (aV ⟨_, res1 rfl, ?_⟩))))
 exact ⟨_, k, m1, hs, passAskM_bad hadv hc0, hp, he⟩
 have hk : k = .ok := by simpa using hc0
 subst hk
 obtain ⟨e1, e2, e3, e4, e5⟩ := advance_lt hwf (by decide) (by decide) hadv
 have hat := hwf.at_le
 have hcn := cW l 1
 obtain rfl := hp.get (by omega)
 refine aW (aF (bV hs [3, 7] mixed (fun w hs => dI 0 rfl (fun w => aC rfl) rfl rfl (dI 1 rfl (fun w => aN rfl) rfl rfl (dI 2 rfl (fun w => aR fo_100_0 rfl) rfl rfl (dJ 3 rfl hs rfl (fun w hs => (aO rfl (aQ k_23 (hs.g 0 rfl) rfl))) rfl (dI 4 rfl (fun w => aC rfl) rfl rfl (dI 5 rfl (fun w => aN rfl) rfl rfl (dI 6 rfl (fun w => aR fo_100_3 rfl) rfl rfl (dJ 7 rfl hs rfl (fun w hs => (aO rfl (aQ cH (hs.g 0 rfl) rfl))) rfl (dL 8 rfl (cF (cD rfl rfl ok_154 (c_skipName hG hs.isIn hb m1.at_ rfl (by omega) (by omega))) rfl (fun v20 w HF => ?_)))))))))))))
 obtain ⟨hc, o, k, e, rfl, he, hr⟩ := HF
 replace hs := hs.frame hc
 refine ⟨fun h => absurd h (by decide +kernel), dI 9 rfl (fun w => aC rfl) rfl rfl (dI 10 rfl (fun w => aI rfl rfl) rfl rfl (dI 11 rfl (fun w => aI rfl rfl) rfl rfl (dI 12 rfl (fun w => aD rfl) rfl rfl (dI 13 rfl (fun w => aD rfl) rfl rfl (bS (by decide +kernel) (aF (dP (dM rfl rfl (lp (bB he rfl) rfl (aH (bH rfl (fun hc1 => ?_) (fun hc1 => ?_))))))))))))⟩
 refine dP (dM rfl rfl (lp (bL rfl (by (simp only [List.all_cons, List.all_nil, he.oneCell]; rfl)) (bu_141_0_1 _ _)) rfl (aJ (cR hs rfl rfl rfl (fun b27 w hb27 hbe27 hs => ?_)))))
 replace hs := hs.drop hb27
 refine lp (cG Tryz.underlying139 (fun _ h => by cases h) rfl) rfl (dN rfl rfl (aH (aV ⟨_, res1 rfl, ?_⟩)))
 exact ⟨_, .other, m1, hs, passAskM_none hadv (by simp [skipAsk, (hr.bad hc1).2]), hp, dA⟩
 have hk : k = .ok := by simpa using hc1
 subst hk
 have hps := hr.ok
 have hpl := pass_some hps
 refine aW (aF (dP (dM rfl rfl (lp (aN rfl) rfl (lp (aR fo_100_0 rfl) rfl (lp (aO rfl (aQ k_23 (hs.g 0 rfl) rfl)) rfl (dM rfl rfl (aZ ok_155 rfl rfl (c_skipType hG hs.isIn hb o rfl (by omega) (by omega)) rfl (fun v35 w HF => ?_)))))))))
 obtain ⟨hc, o1, k, e, rfl, he, hr⟩ := HF
 replace hs := hs.frame hc
 refine dM rfl rfl (dO rfl rfl rfl (dO rfl rfl rfl (dN rfl rfl (dN rfl rfl (aH (dP (dM rfl rfl (lp (bB he rfl) rfl (aH (bH rfl (fun hc2 => ?_) (fun hc2 => ?_)))))))))))
 refine dP (dM rfl rfl (lp (bL rfl (by (simp only [List.all_cons, List.all_nil, he.oneCell]; rfl)) (bu_141_0_1 _ _)) rfl (aJ (cR hs rfl rfl rfl (fun b42 w hb42 hbe42 hs => ?_)))))
 replace hs := hs.drop hb42
 refine lp (cG Tryz.underlying139 (fun _ h => by cases h) rfl) rfl (dN rfl rfl (aH (aV ⟨_, res1 rfl, ?_⟩)))
 exact ⟨_, .other, m1, hs, passAskM_none hadv (by have := (hr.bad hc2).2; simp only [skipAsk, hps, Option.bind_some]; rw [if_neg (by omega)]), hp, dA⟩
 have hk : k = .ok := by simpa using hc2
 subst hk
 obtain ⟨hl1, rfl⟩ := hr.ok
 refine aW (aF (dP (dM rfl rfl (lp (aN rfl) rfl (lp (aR fo_100_0 rfl) rfl (lp (aO rfl (aQ k_23 (hs.g 0 rfl) rfl)) rfl (dM rfl rfl (aZ ok_156 rfl rfl (c_skipClass hG hs.isIn hb (o + 2) rfl (by omega) (by omega)) rfl (fun v50 w HF => ?_)))))))))
 obtain ⟨hc, o2, k, e, rfl, he, hr⟩ := HF
 replace hs := hs.frame hc
 refine dM rfl rfl (dO rfl rfl rfl (dO rfl rfl rfl (dN rfl rfl (dN rfl rfl (aH (dP (dM rfl rfl (lp (bB he rfl) rfl (aH (bH rfl (fun hc3 => ?_) (fun hc3 => ?_)))))))))))
 refine dP (dM rfl rfl (lp (bL rfl (by (simp only [List.all_cons, List.all_nil, he.oneCell]; rfl)) (bu_141_0_1 _ _)) rfl (aJ (cR hs rfl rfl rfl (fun b57 w hb57 hbe57 hs => ?_)))))
 replace hs := hs.drop hb57
 refine lp (cG Tryz.underlying139 (fun _ h => by cases h) rfl) rfl (dN rfl rfl (aH (aV ⟨_, res1 rfl, ?_⟩)))
 exact ⟨_, .other, m1, hs, passAskM_none hadv (by have := (hr.bad hc3).2; simp only [skipAsk, hps, Option.bind_some]; rw [if_neg (by omega)]), hp, dA⟩
 have hk : k = .ok := by simpa using hc3
 subst hk
 obtain ⟨hl2, rfl⟩ := hr.ok
 refine aW (dP (dM rfl rfl (dM rfl rfl (lp (aN rfl) rfl (lp (aR fo_100_3 rfl) rfl (aJ (dQ 0 hs cH rfl rfl rfl rfl rfl rfl rfl (fun w hs => aH (dP (dM rfl rfl (lp (aN rfl) rfl (lp (aR fo_100_4 rfl) rfl (lp (aO rfl (aQ cH (hs.g 0 rfl) rfl)) rfl (lp (bN rfl rfl (i64c (c := m1.index + 1) (by omega) (by omega))) rfl ?_))))))))))))))
 refine lp (aN rfl) rfl (lp (aR fo_100_4 rfl) rfl (aJ (dQ 0 hs cH rfl rfl rfl rfl rfl rfl rfl (fun w hs => aH (dP (dN rfl rfl (aH (aV ⟨_, res1 rfl, ?_⟩))))))))
 exact ⟨_, .ok, _, hs, passAskM_some hadv (e := o + 4) (by simp only [skipAsk, hps, Option.bind_some]; rw [if_pos (by omega)]), PR.mk rfl, rfl⟩
theorem c_skipAllQuestions (hG : Gl A V) (hV : V.In w0) (hb : RB V mv l) (hown : w0.heap[bp]? = some (.cells cs.toArray E (0, 0))) (hvn : V bp = none) (hp : PR l mv m cs) (hwf : WF l m) (h2l : l.length ≤ 4294967296) :
  CallsV Tryz.prog 70 #[.pointer (some ⟨bp, 0, none⟩)] w0 fun v w' => ∃ (cs' : List Value) (k : EK) (m' : PM), St ⟨w0, V, V⟩ w' [(bp, .cells cs'.toArray E (0, 0))] ∧ allPassAsk l fuel m = (k, m') ∧ PR l mv m' cs' ∧ WF l m' ∧ ErrV A v k := by
 have hs := St.start1 hV hown (bU _ _) hvn
 refine aT [_] Tryz.func70 Tryz.ntmps70 Tryz.results70 rfl rfl (dP (dN rfl rfl (aH (bQ (dC (fun _ : PM × Nat × List Value => upd emp 0 (.pointer (some ⟨bp, 0, none⟩))) (fun g w' => St ⟨w0, V, V⟩ w' [(bp, .cells g.2.2.toArray E (0, 0))] ∧ PR l mv g.1 g.2.2 ∧ WF l g.1 ∧ allPassAsk l g.2.1 g.1 = allPassAsk l fuel m ∧ 1 ≤ g.2.1 ∧ (g.1.sec = 1 → count l 1 - g.1.index < g.2.1)) (fun g => g.2.1) (m, fuel, cs) (aL rfl (bG _)) ⟨hs, hp, hwf, rfl, (by decide : 1 ≤ fuel), fun _ => by have := cW l 1; show _ < 65537; omega⟩ ?_)))))
 clear hs hp hwf
 rintro ⟨mm, f, cc⟩ w ⟨hs, hp, hwf, heq, hf1, hf2⟩
 simp only at hs hp hwf heq hf1 hf2 ⊢
 obtain ⟨f, rfl⟩ : ∃ f', f = f' + 1 := ⟨f - 1, by omega⟩
 refine bQ (dP (dM rfl rfl (aZ ok_69 rfl rfl (c_skipQuestion hG hs.isIn hb (hs.g 0 rfl) (hs.off (k := 0) rfl) hp hwf h2l) rfl (fun v5 w HF => ?_))))
 obtain ⟨cs', k, m', hc, hpm, hp, he⟩ := HF
 replace hs := hs.frame1 (k := 0) rfl rfl hc
 have hwf' := wf_passAskM hwf
 rw [hpm] at hwf'
 rw [allPassAsk, hpm] at heq
 refine dN rfl rfl (aH (dP (dM rfl rfl (lp (aO rfl (bR k_57 (hG.ld hs.isIn (g := 5) rfl))) rfl (lp (po_err_eq_g (.inr ⟨rfl, rfl⟩) hG hs.isIn he rfl rfl) rfl (aH (bH rfl (fun hc0 => ?_) (fun hc0 => ?_))))))))
 refine dP (dN rfl rfl (aH (aV ⟨_, res1 rfl, ?_⟩)))
 subst hc0
 exact ⟨_, .ok, m', hs, heq.symm, hp, hwf', rfl⟩
 refine dP (dM rfl rfl (lp (bB he rfl) rfl (aH (bH rfl (fun hc1 => ?_) (fun hc1 => ?_)))))
 refine dP (dM rfl rfl (dN rfl rfl (aH (aV ⟨_, res1 rfl, ?_⟩))))
 have : allPassAsk l fuel m = (k, m') := by
  rw [← heq]
  cases k <;> first | rfl | exact absurd rfl hc1 | exact absurd rfl hc0
 exact ⟨_, k, m', hs, this, hp, hwf', he⟩
 have hk : k = .ok := by simpa using hc1
 subst hk
 obtain ⟨n1, n2, n3, n4⟩ := passAskM_nxt hwf hpm
 refine aW ?_
 exact ⟨(m', f, _), aL rfl (bG _), ⟨hs, hp, hwf', heq, by have := hf2 n1; simp only; omega, fun _ => by have := hf2 n1; simp only; omega⟩, by simp only; omega⟩
set_option maxHeartbeats 1000000 in
theorem c_question (hG : Gl A V) (hV : V.In w0) (hb : RB V mv l) (hown : w0.heap[bp]? = some (.cells cs.toArray E (0, 0))) (hvn : V bp = none) (hp : PR l mv m cs) (hwf : WF l m) (h2l : l.length ≤ 4294967296) :
  CallsV Tryz.prog 68 #[.pointer (some ⟨bp, 0, none⟩)] w0 fun v w' => ∃ (cs' qcs : List Value) (e : Value) (k : EK) (ao : Option PAsk) (m' : PM), v = .tuple #[.agg qcs.toArray, e] ∧ St ⟨w0, V, V⟩ w' [(bp, .cells cs'.toArray E (0, 0))] ∧
   askM l m = (k, ao, m') ∧ PR l mv m' cs' ∧ ErrV A e k ∧ qcs.length = 258 ∧ Flat qcs ∧ (k = .ok → ∃ a, ao = some a ∧ RQ a qcs) := by
 have hs := St.start1 hV hown (bU _ _) hvn
 have hz : rep 256 (Value.int .u8 0) ++ [.int .u16 0, .int .u16 0] = nmC [] 0 ++ [.int .u16 0, .int .u16 0] := by rw [rep256]
 have hzl : (nmC [] 0 ++ [Value.int .u16 0, .int .u16 0]).length = 258 := by rw [List.length_append, cM (by simp)]; rfl
 have hzf : Flat (nmC [] 0 ++ [Value.int .u16 0, .int .u16 0]) := flat_app (flat_nmC _ _) (aG rfl)
 refine aT [_] Tryz.func68 Tryz.ntmps68 Tryz.results68 rfl rfl (dP (aJ (aX hs z_90 rfl (fun b2 w hb2 he2 hs => ?_))))
 rw [hz] at hs
 refine dN rfl rfl (aH (aF (dP (dM rfl rfl (aZ ok_150 rfl rfl (c_checkAdvance hG hs.isIn (hs.g 1 rfl) (hs.off (k := 1) rfl) hp hwf.secs 1 rfl (by decide) (by decide)) rfl (fun v11 w HF => ?_))))))
 obtain ⟨cs', hc, hp, he⟩ := HF
 replace hs := hs.frame1 (k := 1) rfl rfl hc
 obtain ⟨k, m1, hadv⟩ : ∃ k m1, advance l m 1 = (k, m1) := ⟨_, _, rfl⟩
 rw [hadv] at hp he
 simp only at hp he
 refine dN rfl rfl (aH (dP (dM rfl rfl (lp (bB he rfl) rfl (aH (bH rfl (fun hc0 => ?_) (fun hc0 => ?_)))))))
 refine dP (lp (bM (vs := []) (ps := []) rfl bz_90) rfl ?_)
 rw [hz]
 refine dM rfl rfl (aJ (dR 0 hs k_90 rfl rfl rfl hzl hzl hzf rfl (fun w hs => dN rfl rfl (aH (aV ⟨_, res2 ⟨_, rfl, aP k_90 (hs.g 0 rfl) hzl⟩ rfl, ?_⟩)))))
 exact ⟨_, _, _, k, none, m1, rfl, hs.drop hb2, askM_bad hadv hc0, hp, he, hzl, hzf, fun h => absurd h hc0⟩
 have hk : k = .ok := by simpa using hc0
 subst hk
 obtain ⟨e1, e2, e3, e4, e5⟩ := advance_lt hwf (by decide) (by decide) hadv
 have hat := hwf.at_le
 have hcn := cW l 1
 obtain rfl := hp.get (by omega)
 refine aW (dP (aJ (aX hs z_86 rfl (fun b5 w hb5 he5 hs => ?_))))
 rw [rep256] at hs
 refine aH (aF (bV hs [3, 7] mixed (fun w hs => dI 0 rfl (fun w => aC rfl) rfl rfl (dI 1 rfl (fun w => aN rfl) rfl rfl (dI 2 rfl (fun w => aR fo_100_0 rfl) rfl rfl (dJ 3 rfl hs rfl (fun w hs => (aO rfl (aQ k_23 (hs.g 2 rfl) rfl))) rfl (dI 4 rfl (fun w => aC rfl) rfl rfl (dI 5 rfl (fun w => aN rfl) rfl rfl (dI 6 rfl (fun w => aR fo_100_3 rfl) rfl rfl (dJ 7 rfl hs rfl (fun w hs => (aO rfl (aQ cH (hs.g 2 rfl) rfl))) rfl (dL 8 rfl (cF (cD rfl rfl ok_151 (c_nameUnpack (pre := []) (post := []) hG hs.isIn hb rfl (by have := hs.g 0 rfl; rw [List.nil_append, List.append_nil]; exact this) (hs.off (k := 0) rfl) m1.at_ rfl (by omega) (by omega))) rfl (fun v25 w HF => ?_)))))))))))))
 obtain ⟨o, k, e, out, z, rfl, he, ho, hz2, hc, hr⟩ := HF
 replace hs := hs.frame1 (k := 0) rfl rfl hc
 rw [List.nil_append, List.append_nil] at hs
 have hnl := cM (n := z) (Nat.le_trans ho (by decide : 254 ≤ 255))
 refine ⟨fun h => absurd h (by decide +kernel), dI 9 rfl (fun w => aC rfl) rfl rfl (dI 10 rfl (fun w => aI rfl rfl) rfl rfl (dI 11 rfl (fun w => aI rfl rfl) rfl rfl (dI 12 rfl (fun w => aD rfl) rfl rfl (dI 13 rfl (fun w => aD rfl) rfl rfl (bS (by decide +kernel) (aF (dP (dM rfl rfl (lp (bB he rfl) rfl (aH (bH rfl (fun hc1 => ?_) (fun hc1 => ?_))))))))))))⟩
 refine dP (lp (bM (vs := []) (ps := []) rfl bz_90) rfl ?_)
 rw [hz]
 refine dM rfl rfl (lp (bL rfl (by (simp only [List.all_cons, List.all_nil, he.oneCell]; rfl)) (bu_141_0_1 _ _)) rfl (aJ (cR hs rfl rfl rfl (fun b33 w hb33 hbe33 hs => ?_))))
 replace hs := hs.drop hb33
 refine lp (cG Tryz.underlying139 (fun _ h => by cases h) rfl) rfl (aJ (dR 1 hs k_90 rfl rfl rfl hzl hzl hzf rfl (fun w hs => dN rfl rfl (aH (aV ⟨_, res2 ⟨_, rfl, aP k_90 (hs.g 1 rfl) hzl⟩ rfl, ?_⟩)))))
 exact ⟨_, _, _, .other, none, m1, rfl, (hs.drop hb5).drop hb2, askM_none hadv (by simp [ask, (hr.bad hc1).2]), hp, dA, hzl, hzf, fun h => by cases h⟩
 have hk : k = .ok := by simpa using hc1
 subst hk
 obtain ⟨hname, rfl⟩ := hr.ok
 have hol := (name_some hname).2.2
 refine aW (dP (dM rfl rfl (lp (aN rfl) rfl (lp (aR fo_100_0 rfl) rfl (lp (aO rfl (aQ k_23 (hs.g 2 rfl) rfl)) rfl (dM rfl rfl (aZ ok_152 rfl rfl (c_unpackType hG hs.isIn hb o rfl (by omega) (by omega)) rfl (fun v41 w HF => ?_))))))))
 obtain ⟨hc, x1, o1, k, e, rfl, he, hr⟩ := HF
 replace hs := hs.frame hc
 refine dM rfl rfl (dO rfl rfl rfl (dO rfl rfl rfl (dO rfl rfl rfl (dN rfl rfl (dN rfl rfl (dN rfl rfl (aH (aF (dP (dM rfl rfl (lp (bB he rfl) rfl (aH (bH rfl (fun hc2 => ?_) (fun hc2 => ?_))))))))))))))
 refine dP (lp (bM (vs := []) (ps := []) rfl bz_90) rfl ?_)
 rw [hz]
 refine dM rfl rfl (lp (bL rfl (by (simp only [List.all_cons, List.all_nil, he.oneCell]; rfl)) (bu_141_0_1 _ _)) rfl (aJ (cR hs rfl rfl rfl (fun b50 w hb50 hbe50 hs => ?_))))
 replace hs := hs.drop hb50
 refine lp (cG Tryz.underlying139 (fun _ h => by cases h) rfl) rfl (aJ (dR 1 hs k_90 rfl rfl rfl hzl hzl hzf rfl (fun w hs => dN rfl rfl (aH (aV ⟨_, res2 ⟨_, rfl, aP k_90 (hs.g 1 rfl) hzl⟩ rfl, ?_⟩)))))
 exact ⟨_, _, _, .other, none, m1, rfl, (hs.drop hb5).drop hb2, askM_none hadv (by simp [ask, hname, (hr.bad hc2).2]), hp, dA, hzl, hzf, fun h => by cases h⟩
 have hk : k = .ok := by simpa using hc2
 subst hk
 obtain ⟨ht, rfl, _, hl1⟩ := hr.ok
 refine aW (dP (dM rfl rfl (lp (aN rfl) rfl (lp (aR fo_100_0 rfl) rfl (lp (aO rfl (aQ k_23 (hs.g 2 rfl) rfl)) rfl (dM rfl rfl (aZ ok_153 rfl rfl (c_unpackClass hG hs.isIn hb (o + 2) rfl (by omega) (by omega)) rfl (fun v58 w HF => ?_))))))))
 obtain ⟨hc, x2, o2, k, e, rfl, he, hr⟩ := HF
 replace hs := hs.frame hc
 refine dM rfl rfl (dO rfl rfl rfl (dO rfl rfl rfl (dO rfl rfl rfl (dN rfl rfl (dN rfl rfl (dN rfl rfl (aH (aF (dP (dM rfl rfl (lp (bB he rfl) rfl (aH (bH rfl (fun hc3 => ?_) (fun hc3 => ?_))))))))))))))
 refine dP (lp (bM (vs := []) (ps := []) rfl bz_90) rfl ?_)
 rw [hz]
 refine dM rfl rfl (lp (bL rfl (by (simp only [List.all_cons, List.all_nil, he.oneCell]; rfl)) (bu_141_0_1 _ _)) rfl (aJ (cR hs rfl rfl rfl (fun b67 w hb67 hbe67 hs => ?_))))
 replace hs := hs.drop hb67
 refine lp (cG Tryz.underlying139 (fun _ h => by cases h) rfl) rfl (aJ (dR 1 hs k_90 rfl rfl rfl hzl hzl hzf rfl (fun w hs => dN rfl rfl (aH (aV ⟨_, res2 ⟨_, rfl, aP k_90 (hs.g 1 rfl) hzl⟩ rfl, ?_⟩)))))
 exact ⟨_, _, _, .other, none, m1, rfl, (hs.drop hb5).drop hb2, askM_none hadv (by simp [ask, hname, ht, (hr.bad hc3).2]), hp, dA, hzl, hzf, fun h => by cases h⟩
 have hk : k = .ok := by simpa using hc3
 subst hk
 obtain ⟨hcl, rfl, _, hl2⟩ := hr.ok
 refine aW (dP (dM rfl rfl (dM rfl rfl (lp (aN rfl) rfl (lp (aR fo_100_3 rfl) rfl (aJ (dQ 2 hs cH rfl rfl rfl rfl rfl rfl rfl (fun w hs => aH (dP (dM rfl rfl (lp (aN rfl) rfl (lp (aR fo_100_4 rfl) rfl (lp (aO rfl (aQ cH (hs.g 2 rfl) rfl)) rfl (lp (bN rfl rfl (i64c (c := m1.index + 1) (by omega) (by omega))) rfl ?_))))))))))))))
 refine lp (aN rfl) rfl (lp (aR fo_100_4 rfl) rfl (aJ (dQ 2 hs cH rfl rfl rfl rfl rfl rfl rfl (fun w hs => aH (aF ?_)))))
 have hRQ : RQ ⟨out, x1, x2⟩ (nmC out out.length ++ [.int .u16 x1, .int .u16 x2]) := ⟨rfl, ho⟩
 refine aB (lp (aO rfl (aP k_86 (hs.g 0 rfl) hnl)) rfl (dM rfl rfl (dM rfl rfl (lp (po_buildG [nmC out out.length, [.int .u16 x1], [.int .u16 x2]] st_90 rfl rfl rfl (by simp [hnl]) (show _ = nmC out out.length ++ [.int .u16 x1, .int .u16 x2] by simp)) rfl (aJ (dR 1 hs k_90 rfl rfl rfl hRQ.flat.1 hzl hRQ.flat.2 rfl (fun w hs => dN rfl rfl (aH (aV ⟨_, res2 ⟨_, rfl, aP k_90 (hs.g 1 rfl) hRQ.flat.1⟩ rfl, ?_⟩)))))))))
 exact ⟨_, _, _, .ok, _, _, rfl, (hs.drop hb5).drop hb2, askM_some hadv (a := ⟨out, x1, x2⟩) (e := o + 4) (by simp only [ask, hname, ht, hcl, Option.bind_some, Option.map_some]), PR.mk rfl, rfl, hRQ.flat.1, hRQ.flat.2, fun _ => ⟨_, rfl, hRQ⟩⟩
end
end Go.Proofs.YtgpfjlfkaoffeaaGreatDoor

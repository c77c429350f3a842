/- The parser: questions. Plain laws of the model: bytes behind a message that is read change nothing. Plain laws of the model: all records of a section are those that are read one by one. -/
import Derived.Test.YtmigokakpahgkaaGreatDoorG12
set_option linter.all false
namespace Go.Proofs.YtmigokakpahgkaaGreatDoor
open Go
def RQ (a : PAsk) (c : List Value) : Prop := c = nmC a.name a.name.length ++ [.int .u16 a.type, .int .u16 a.cls] ∧ a.name.length ≤ 254
theorem RQ.flat {a : PAsk} {c : List Value} (h : RQ a c) : c.length = 258 ∧ Flat c := by
 obtain ⟨rfl, h⟩ := h
 exact ⟨by rw [List.length_append, cM (by omega)]; rfl, flat_app (flat_nmC _ _) (aG rfl)⟩
def RQs (V : Vw) (v : Value) (l : List PAsk) : Prop := ∃ xs, SlV V 258 v l.length xs ∧ Rows 258 RQ l xs
section
variable {l : List UInt8} {m m' m1 : PM} {k : EK}
theorem passAskM_bad (h : advance l m 1 = (k, m1)) (hk : k ≠ .ok) : passAskM l m = (k, m1) := by
 unfold passAskM; rw [h]; cases k <;> first | rfl | exact absurd rfl hk
theorem passAskM_none (h : advance l m 1 = (.ok, m1)) (hh : skipAsk l m1.at_ = none) : passAskM l m = (.other, m1) := by
 unfold passAskM; rw [h]; simp only [hh]
theorem passAskM_some {e : Nat} (h : advance l m 1 = (.ok, m1)) (hh : skipAsk l m1.at_ = some e) : passAskM l m = (.ok, { m1 with at_ := e, index := m1.index + 1 }) := by
 unfold passAskM; rw [h]; simp only [hh]
theorem askM_bad (h : advance l m 1 = (k, m1)) (hk : k ≠ .ok) : askM l m = (k, none, m1) := by
 unfold askM; rw [h]; cases k <;> first | rfl | exact absurd rfl hk
theorem askM_none (h : advance l m 1 = (.ok, m1)) (hh : ask l m1.at_ = none) : askM l m = (.other, none, m1) := by
 unfold askM; rw [h]; simp only [hh]
theorem askM_some {a : PAsk} {e : Nat} (h : advance l m 1 = (.ok, m1)) (hh : ask l m1.at_ = some (a, e)) : askM l m = (.ok, some a, { m1 with at_ := e, index := m1.index + 1 }) := by
 unfold askM; rw [h]; simp only [hh]
def Nxt (l : List UInt8) (s : Nat) (m m' : PM) : Prop := m.sec = s ∧ m'.sec = s ∧ m'.index = m.index + 1 ∧ m.index < count l s
theorem passAskM_nxt (hwf : WF l m) (h : passAskM l m = (.ok, m')) : Nxt l 1 m m' := by
 obtain ⟨k, m1, hadv⟩ : ∃ k m1, advance l m 1 = (k, m1) := ⟨_, _, rfl⟩
 by_cases hk : k = .ok
 subst hk
 obtain ⟨e1, e2, e3, e4, e5⟩ := advance_lt hwf (by decide) (by decide) hadv
 obtain ⟨f1, _, _⟩ := advance_ok hadv
 cases hh : skipAsk l m1.at_ with
 | none => rw [passAskM_none hadv hh] at h; cases h
 | some e => rw [passAskM_some hadv hh] at h; cases h; exact ⟨f1, e1, by rw [← e4], by rw [← e4]; exact e2⟩
 rw [passAskM_bad hadv hk] at h; cases h; exact absurd rfl hk
theorem askM_nxt {a : Option PAsk} (hwf : WF l m) (h : askM l m = (.ok, a, m')) : Nxt l 1 m m' := by
 obtain ⟨k, m1, hadv⟩ : ∃ k m1, advance l m 1 = (k, m1) := ⟨_, _, rfl⟩
 by_cases hk : k = .ok
 subst hk
 obtain ⟨e1, e2, e3, e4, e5⟩ := advance_lt hwf (by decide) (by decide) hadv
 obtain ⟨f1, _, _⟩ := advance_ok hadv
 cases hh : ask l m1.at_ with
 | none => rw [askM_none hadv hh] at h; cases h
 | some p => obtain ⟨a, e⟩ := p; rw [askM_some hadv hh] at h; cases h; exact ⟨f1, e1, by rw [← e4], by rw [← e4]; exact e2⟩
 rw [askM_bad hadv hk] at h; cases h; exact absurd rfl hk
end
section
variable {A : Nat → Addr} {V : Vw} {w0 : World} {l : List UInt8} {mv : Value} {bp : Nat} {E : TypeId} {m : PM} {cs : List Value}
theorem c_skipQuestion (hG : Gl A V) (hV : V.In w0) (hb : RB V mv l) (hown : w0.heap[bp]? = some (.cells cs.toArray E (0, 0))) (hvn : V bp = none) (hp : PR l mv m cs) (hwf : WF l m) (h2l : l.length ≤ 4294967296) :
  CallsV Tryz.prog 47 #[.pointer (some ⟨bp, 0, none⟩)] w0 fun v w' => ∃ (cs' : List Value) (k : EK) (m' : PM), St ⟨w0, V, V⟩ w' [(bp, .cells cs'.toArray E (0, 0))] ∧ passAskM l m = (k, m') ∧ PR l mv m' cs' ∧ ErrV A v k := by
 have hs := St.start1 hV hown (bU _ _) hvn
 refine aT [_] Tryz.func47 Tryz.ntmps47 Tryz.results47 rfl rfl (dP (dN rfl rfl (aH (aF (dP (dM rfl rfl (aZ ok_111 rfl rfl (c_checkAdvance hG hs.isIn (hs.g 0 rfl) (hs.off (k := 0) rfl) hp hwf.secs 1 rfl (by decide) (by decide)) rfl (fun v7 w HF => ?_))))))))
 obtain ⟨cs', hc, hp, he⟩ := HF
 replace hs := hs.frame1 (k := 0) rfl rfl hc
 obtain ⟨k, m1, hadv⟩ : ∃ k m1, advance l m 1 = (k, m1) := ⟨_, _, rfl⟩
 rw [hadv] at hp he
 simp only at hp he
 refine dN rfl rfl (aH (dP (dM rfl rfl (lp (bB he rfl) rfl (aH (bH rfl (fun hc0 => ?_) (fun hc0 => ?_)))))))
 refine dP (dM rfl rfl (dN rfl rfl (aH (aV ⟨_, res1 rfl, ?_⟩))))
 exact ⟨_, k, m1, hs, passAskM_bad hadv hc0, hp, he⟩
 have hk : k = .ok := by simpa using hc0
 subst hk
 obtain ⟨e1, e2, e3, e4, e5⟩ := advance_lt hwf (by decide) (by decide) hadv
 have hat := hwf.at_le
 have hcn := cW l 1
 obtain rfl := hp.get (by omega)
 refine aW (aF (bV hs [3, 7] mixed (fun w hs => dI 0 rfl (fun w => aC rfl) rfl rfl (dI 1 rfl (fun w => aN rfl) rfl rfl (dI 2 rfl (fun w => aR fo_54_0 rfl) rfl rfl (dJ 3 rfl hs rfl (fun w hs => (aO rfl (aQ k_22 (hs.g 0 rfl) rfl))) rfl (dI 4 rfl (fun w => aC rfl) rfl rfl (dI 5 rfl (fun w => aN rfl) rfl rfl (dI 6 rfl (fun w => aR cI rfl) rfl rfl (dJ 7 rfl hs rfl (fun w hs => (aO rfl (aQ cH (hs.g 0 rfl) rfl))) rfl (dL 8 rfl (cF (cD rfl rfl ok_116 (c_skipName hG hs.isIn hb m1.at_ rfl (by omega) (by omega))) rfl (fun v20 w HF => ?_)))))))))))))
 obtain ⟨hc, o, k, e, rfl, he, hr⟩ := HF
 replace hs := hs.frame hc
 refine ⟨fun h => absurd h (by decide +kernel), dI 9 rfl (fun w => aC rfl) rfl rfl (dI 10 rfl (fun w => aI rfl rfl) rfl rfl (dI 11 rfl (fun w => aI rfl rfl) rfl rfl (dI 12 rfl (fun w => aD rfl) rfl rfl (dI 13 rfl (fun w => aD rfl) rfl rfl (bS (by decide +kernel) (aF (dP (dM rfl rfl (lp (bB he rfl) rfl (aH (bH rfl (fun hc1 => ?_) (fun hc1 => ?_))))))))))))⟩
 refine dP (dM rfl rfl (lp (bL rfl (by (simp only [List.all_cons, List.all_nil, he.oneCell]; rfl)) (cJ _ _)) rfl (aJ (cR hs rfl rfl rfl (fun b27 w hb27 hbe27 hs => ?_)))))
 replace hs := hs.drop hb27
 refine lp (cG Tryz.underlying93 (fun _ h => by cases h) rfl) rfl (dN rfl rfl (aH (aV ⟨_, res1 rfl, ?_⟩)))
 exact ⟨_, .other, m1, hs, passAskM_none hadv (by simp [skipAsk, (hr.bad hc1).2]), hp, dA⟩
 have hk : k = .ok := by simpa using hc1
 subst hk
 have hps := hr.ok
 have hpl := pass_some hps
 refine aW (aF (dP (dM rfl rfl (lp (aN rfl) rfl (lp (aR fo_54_0 rfl) rfl (lp (aO rfl (aQ k_22 (hs.g 0 rfl) rfl)) rfl (dM rfl rfl (aZ ok_117 rfl rfl (c_skipType hG hs.isIn hb o rfl (by omega) (by omega)) rfl (fun v35 w HF => ?_)))))))))
 obtain ⟨hc, o1, k, e, rfl, he, hr⟩ := HF
 replace hs := hs.frame hc
 refine dM rfl rfl (dO rfl rfl rfl (dO rfl rfl rfl (dN rfl rfl (dN rfl rfl (aH (dP (dM rfl rfl (lp (bB he rfl) rfl (aH (bH rfl (fun hc2 => ?_) (fun hc2 => ?_)))))))))))
 refine dP (dM rfl rfl (lp (bL rfl (by (simp only [List.all_cons, List.all_nil, he.oneCell]; rfl)) (cJ _ _)) rfl (aJ (cR hs rfl rfl rfl (fun b42 w hb42 hbe42 hs => ?_)))))
 replace hs := hs.drop hb42
 refine lp (cG Tryz.underlying93 (fun _ h => by cases h) rfl) rfl (dN rfl rfl (aH (aV ⟨_, res1 rfl, ?_⟩)))
 exact ⟨_, .other, m1, hs, passAskM_none hadv (by have := (hr.bad hc2).2; simp only [skipAsk, hps, Option.bind_some]; rw [if_neg (by omega)]), hp, dA⟩
 have hk : k = .ok := by simpa using hc2
 subst hk
 obtain ⟨hl1, rfl⟩ := hr.ok
 refine aW (aF (dP (dM rfl rfl (lp (aN rfl) rfl (lp (aR fo_54_0 rfl) rfl (lp (aO rfl (aQ k_22 (hs.g 0 rfl) rfl)) rfl (dM rfl rfl (aZ ok_118 rfl rfl (c_skipClass hG hs.isIn hb (o + 2) rfl (by omega) (by omega)) rfl (fun v50 w HF => ?_)))))))))
 obtain ⟨hc, o2, k, e, rfl, he, hr⟩ := HF
 replace hs := hs.frame hc
 refine dM rfl rfl (dO rfl rfl rfl (dO rfl rfl rfl (dN rfl rfl (dN rfl rfl (aH (dP (dM rfl rfl (lp (bB he rfl) rfl (aH (bH rfl (fun hc3 => ?_) (fun hc3 => ?_)))))))))))
 refine dP (dM rfl rfl (lp (bL rfl (by (simp only [List.all_cons, List.all_nil, he.oneCell]; rfl)) (cJ _ _)) rfl (aJ (cR hs rfl rfl rfl (fun b57 w hb57 hbe57 hs => ?_)))))
 replace hs := hs.drop hb57
 refine lp (cG Tryz.underlying93 (fun _ h => by cases h) rfl) rfl (dN rfl rfl (aH (aV ⟨_, res1 rfl, ?_⟩)))
 exact ⟨_, .other, m1, hs, passAskM_none hadv (by have := (hr.bad hc3).2; simp only [skipAsk, hps, Option.bind_some]; rw [if_neg (by omega)]), hp, dA⟩
 have hk : k = .ok := by simpa using hc3
 subst hk
 obtain ⟨hl2, rfl⟩ := hr.ok
 refine aW (dP (dM rfl rfl (dM rfl rfl (lp (aN rfl) rfl (lp (aR cI rfl) rfl (aJ (dQ 0 hs cH rfl rfl rfl rfl rfl rfl rfl (fun w hs => aH (dP (dM rfl rfl (lp (aN rfl) rfl (lp (aR cL rfl) rfl (lp (aO rfl (aQ cH (hs.g 0 rfl) rfl)) rfl (lp (bN rfl rfl (i64c (c := m1.index + 1) (by omega) (by omega))) rfl ?_))))))))))))))
 refine lp (aN rfl) rfl (lp (aR cL rfl) rfl (aJ (dQ 0 hs cH rfl rfl rfl rfl rfl rfl rfl (fun w hs => aH (dP (dN rfl rfl (aH (aV ⟨_, res1 rfl, ?_⟩))))))))
 exact ⟨_, .ok, _, hs, passAskM_some hadv (e := o + 4) (by simp only [skipAsk, hps, Option.bind_some]; rw [if_pos (by omega)]), PR.mk rfl, rfl⟩
theorem c_skipAllQuestions (hG : Gl A V) (hV : V.In w0) (hb : RB V mv l) (hown : w0.heap[bp]? = some (.cells cs.toArray E (0, 0))) (hvn : V bp = none) (hp : PR l mv m cs) (hwf : WF l m) (h2l : l.length ≤ 4294967296) :
  CallsV Tryz.prog 48 #[.pointer (some ⟨bp, 0, none⟩)] w0 fun v w' => ∃ (cs' : List Value) (k : EK) (m' : PM), St ⟨w0, V, V⟩ w' [(bp, .cells cs'.toArray E (0, 0))] ∧ allPassAsk l fuel m = (k, m') ∧ PR l mv m' cs' ∧ WF l m' ∧ ErrV A v k := by
 have hs := St.start1 hV hown (bU _ _) hvn
 refine aT [_] Tryz.func48 Tryz.ntmps48 Tryz.results48 rfl rfl (dP (dN rfl rfl (aH (bQ (dC (fun _ : PM × Nat × List Value => upd emp 0 (.pointer (some ⟨bp, 0, none⟩))) (fun g w' => St ⟨w0, V, V⟩ w' [(bp, .cells g.2.2.toArray E (0, 0))] ∧ PR l mv g.1 g.2.2 ∧ WF l g.1 ∧ allPassAsk l g.2.1 g.1 = allPassAsk l fuel m ∧ 1 ≤ g.2.1 ∧ (g.1.sec = 1 → count l 1 - g.1.index < g.2.1)) (fun g => g.2.1) (m, fuel, cs) (aL rfl (bG _)) ⟨hs, hp, hwf, rfl, (by decide : 1 ≤ fuel), fun _ => by have := cW l 1; show _ < 65537; omega⟩ ?_)))))
 clear hs hp hwf
 rintro ⟨mm, f, cc⟩ w ⟨hs, hp, hwf, heq, hf1, hf2⟩
 simp only at hs hp hwf heq hf1 hf2 ⊢
 obtain ⟨f, rfl⟩ : ∃ f', f = f' + 1 := ⟨f - 1, by omega⟩
 refine bQ (dP (dM rfl rfl (aZ ok_47 rfl rfl (c_skipQuestion hG hs.isIn hb (hs.g 0 rfl) (hs.off (k := 0) rfl) hp hwf h2l) rfl (fun v5 w HF => ?_))))
 obtain ⟨cs', k, m', hc, hpm, hp, he⟩ := HF
 replace hs := hs.frame1 (k := 0) rfl rfl hc
 have hwf' := wf_passAskM hwf
 rw [hpm] at hwf'
 rw [allPassAsk, hpm] at heq
 refine dN rfl rfl (aH (dP (dM rfl rfl (lp (aO rfl (bR k_60 (hG.ld hs.isIn (g := 1) rfl))) rfl (lp (po_err_eq_g (.inr ⟨rfl, rfl⟩) hG hs.isIn he rfl rfl) rfl (aH (bH rfl (fun hc0 => ?_) (fun hc0 => ?_))))))))
 refine dP (dN rfl rfl (aH (aV ⟨_, res1 rfl, ?_⟩)))
 subst hc0
 exact ⟨_, .ok, m', hs, heq.symm, hp, hwf', rfl⟩
 refine dP (dM rfl rfl (lp (bB he rfl) rfl (aH (bH rfl (fun hc1 => ?_) (fun hc1 => ?_)))))
 refine dP (dM rfl rfl (dN rfl rfl (aH (aV ⟨_, res1 rfl, ?_⟩))))
 have : allPassAsk l fuel m = (k, m') := by
  rw [← heq]
  cases k <;> first | rfl | exact absurd rfl hc1 | exact absurd rfl hc0
 exact ⟨_, k, m', hs, this, hp, hwf', he⟩
 have hk : k = .ok := by simpa using hc1
 subst hk
 obtain ⟨n1, n2, n3, n4⟩ := passAskM_nxt hwf hpm
 refine aW ?_
 exact ⟨(m', f, _), aL rfl (bG _), ⟨hs, hp, hwf', heq, by have := hf2 n1; simp only; omega, fun _ => by have := hf2 n1; simp only; omega⟩, by simp only; omega⟩
set_option maxHeartbeats 1000000 in
theorem c_question (hG : Gl A V) (hV : V.In w0) (hb : RB V mv l) (hown : w0.heap[bp]? = some (.cells cs.toArray E (0, 0))) (hvn : V bp = none) (hp : PR l mv m cs) (hwf : WF l m) (h2l : l.length ≤ 4294967296) :
  CallsV Tryz.prog 44 #[.pointer (some ⟨bp, 0, none⟩)] w0 fun v w' => ∃ (cs' qcs : List Value) (e : Value) (k : EK) (ao : Option PAsk) (m' : PM), v = .tuple #[.agg qcs.toArray, e] ∧ St ⟨w0, V, V⟩ w' [(bp, .cells cs'.toArray E (0, 0))] ∧
   askM l m = (k, ao, m') ∧ PR l mv m' cs' ∧ ErrV A e k ∧ qcs.length = 258 ∧ Flat qcs ∧ (k = .ok → ∃ a, ao = some a ∧ RQ a qcs) := by
 have hs := St.start1 hV hown (bU _ _) hvn
 have hz : rep 256 (Value.int .u8 0) ++ [.int .u16 0, .int .u16 0] = nmC [] 0 ++ [.int .u16 0, .int .u16 0] := by rw [rep256]
 have hzl : (nmC [] 0 ++ [Value.int .u16 0, .int .u16 0]).length = 258 := by rw [List.length_append, cM (by simp)]; rfl
 have hzf : Flat (nmC [] 0 ++ [Value.int .u16 0, .int .u16 0]) := flat_app (flat_nmC _ _) (aG rfl)
 refine aT [_] Tryz.func44 Tryz.ntmps44 Tryz.results44 rfl rfl (dP (aJ (aX hs z_102 rfl (fun b2 w hb2 he2 hs => ?_))))
 rw [hz] at hs
 refine dN rfl rfl (aH (aF (dP (dM rfl rfl (aZ ok_111 rfl rfl (c_checkAdvance hG hs.isIn (hs.g 1 rfl) (hs.off (k := 1) rfl) hp hwf.secs 1 rfl (by decide) (by decide)) rfl (fun v11 w HF => ?_))))))
 obtain ⟨cs', hc, hp, he⟩ := HF
 replace hs := hs.frame1 (k := 1) rfl rfl hc
 obtain ⟨k, m1, hadv⟩ : ∃ k m1, advance l m 1 = (k, m1) := ⟨_, _, rfl⟩
 rw [hadv] at hp he
 simp only at hp he
 refine dN rfl rfl (aH (dP (dM rfl rfl (lp (bB he rfl) rfl (aH (bH rfl (fun hc0 => ?_) (fun hc0 => ?_)))))))
 refine dP (lp (bM (vs := []) (ps := []) rfl bz_102) rfl ?_)
 rw [hz]
 refine dM rfl rfl (aJ (dR 0 hs k_102 rfl rfl rfl hzl hzl hzf rfl (fun w hs => dN rfl rfl (aH (aV ⟨_, res2 ⟨_, rfl, aP k_102 (hs.g 0 rfl) hzl⟩ rfl, ?_⟩)))))
 exact ⟨_, _, _, k, none, m1, rfl, hs.drop hb2, askM_bad hadv hc0, hp, he, hzl, hzf, fun h => absurd h hc0⟩
 have hk : k = .ok := by simpa using hc0
 subst hk
 obtain ⟨e1, e2, e3, e4, e5⟩ := advance_lt hwf (by decide) (by decide) hadv
 have hat := hwf.at_le
 have hcn := cW l 1
 obtain rfl := hp.get (by omega)
 refine aW (dP (aJ (aX hs z_99 rfl (fun b5 w hb5 he5 hs => ?_))))
 rw [rep256] at hs
 refine aH (aF (bV hs [3, 7] mixed (fun w hs => dI 0 rfl (fun w => aC rfl) rfl rfl (dI 1 rfl (fun w => aN rfl) rfl rfl (dI 2 rfl (fun w => aR fo_54_0 rfl) rfl rfl (dJ 3 rfl hs rfl (fun w hs => (aO rfl (aQ k_22 (hs.g 2 rfl) rfl))) rfl (dI 4 rfl (fun w => aC rfl) rfl rfl (dI 5 rfl (fun w => aN rfl) rfl rfl (dI 6 rfl (fun w => aR cI rfl) rfl rfl (dJ 7 rfl hs rfl (fun w hs => (aO rfl (aQ cH (hs.g 2 rfl) rfl))) rfl (dL 8 rfl (cF (cD rfl rfl ok_112 (c_nameUnpack (pre := []) (post := []) hG hs.isIn hb rfl (by have := hs.g 0 rfl; rw [List.nil_append, List.append_nil]; exact this) (hs.off (k := 0) rfl) m1.at_ rfl (by omega) (by omega))) rfl (fun v25 w HF => ?_)))))))))))))
 obtain ⟨o, k, e, out, z, rfl, he, ho, hz2, hc, hr⟩ := HF
 replace hs := hs.frame1 (k := 0) rfl rfl hc
 rw [List.nil_append, List.append_nil] at hs
 have hnl := cM (n := z) (Nat.le_trans ho (by decide : 254 ≤ 255))
 refine ⟨fun h => absurd h (by decide +kernel), dI 9 rfl (fun w => aC rfl) rfl rfl (dI 10 rfl (fun w => aI rfl rfl) rfl rfl (dI 11 rfl (fun w => aI rfl rfl) rfl rfl (dI 12 rfl (fun w => aD rfl) rfl rfl (dI 13 rfl (fun w => aD rfl) rfl rfl (bS (by decide +kernel) (aF (dP (dM rfl rfl (lp (bB he rfl) rfl (aH (bH rfl (fun hc1 => ?_) (fun hc1 => ?_))))))))))))⟩
 refine dP (lp (bM (vs := []) (ps := []) rfl bz_102) rfl ?_)
 rw [hz]
 refine dM rfl rfl (lp (bL rfl (by (simp only [List.all_cons, List.all_nil, he.oneCell]; rfl)) (cJ _ _)) rfl (aJ (cR hs rfl rfl rfl (fun b33 w hb33 hbe33 hs => ?_))))
 replace hs := hs.drop hb33
 refine lp (cG Tryz.underlying93 (fun _ h => by cases h) rfl) rfl (aJ (dR 1 hs k_102 rfl rfl rfl hzl hzl hzf rfl (fun w hs => dN rfl rfl (aH (aV ⟨_, res2 ⟨_, rfl, aP k_102 (hs.g 1 rfl) hzl⟩ rfl, ?_⟩)))))
 exact ⟨_, _, _, .other, none, m1, rfl, (hs.drop hb5).drop hb2, askM_none hadv (by simp [ask, (hr.bad hc1).2]), hp, dA, hzl, hzf, fun h => by cases h⟩
 have hk : k = .ok := by simpa using hc1
 subst hk
 obtain ⟨hname, rfl⟩ := hr.ok
 have hol := (name_some hname).2.2
 refine aW (dP (dM rfl rfl (lp (aN rfl) rfl (lp (aR fo_54_0 rfl) rfl (lp (aO rfl (aQ k_22 (hs.g 2 rfl) rfl)) rfl (dM rfl rfl (aZ ok_113 rfl rfl (c_unpackType hG hs.isIn hb o rfl (by omega) (by omega)) rfl (fun v41 w HF => ?_))))))))
 obtain ⟨hc, x1, o1, k, e, rfl, he, hr⟩ := HF
 replace hs := hs.frame hc
 refine dM rfl rfl (dO rfl rfl rfl (dO rfl rfl rfl (dO rfl rfl rfl (dN rfl rfl (dN rfl rfl (dN rfl rfl (aH (aF (dP (dM rfl rfl (lp (bB he rfl) rfl (aH (bH rfl (fun hc2 => ?_) (fun hc2 => ?_))))))))))))))
 refine dP (lp (bM (vs := []) (ps := []) rfl bz_102) rfl ?_)
 rw [hz]
 refine dM rfl rfl (lp (bL rfl (by (simp only [List.all_cons, List.all_nil, he.oneCell]; rfl)) (cJ _ _)) rfl (aJ (cR hs rfl rfl rfl (fun b50 w hb50 hbe50 hs => ?_))))
 replace hs := hs.drop hb50
 refine lp (cG Tryz.underlying93 (fun _ h => by cases h) rfl) rfl (aJ (dR 1 hs k_102 rfl rfl rfl hzl hzl hzf rfl (fun w hs => dN rfl rfl (aH (aV ⟨_, res2 ⟨_, rfl, aP k_102 (hs.g 1 rfl) hzl⟩ rfl, ?_⟩)))))
 exact ⟨_, _, _, .other, none, m1, rfl, (hs.drop hb5).drop hb2, askM_none hadv (by simp [ask, hname, (hr.bad hc2).2]), hp, dA, hzl, hzf, fun h => by cases h⟩
 have hk : k = .ok := by simpa using hc2
 subst hk
 obtain ⟨ht, rfl, _, hl1⟩ := hr.ok
 refine aW (dP (dM rfl rfl (lp (aN rfl) rfl (lp (aR fo_54_0 rfl) rfl (lp (aO rfl (aQ k_22 (hs.g 2 rfl) rfl)) rfl (dM rfl rfl (aZ ok_114 rfl rfl (c_unpackClass hG hs.isIn hb (o + 2) rfl (by omega) (by omega)) rfl (fun v58 w HF => ?_))))))))
 obtain ⟨hc, x2, o2, k, e, rfl, he, hr⟩ := HF
 replace hs := hs.frame hc
 refine dM rfl rfl (dO rfl rfl rfl (dO rfl rfl rfl (dO rfl rfl rfl (dN rfl rfl (dN rfl rfl (dN rfl rfl (aH (aF (dP (dM rfl rfl (lp (bB he rfl) rfl (aH (bH rfl (fun hc3 => ?_) (fun hc3 => ?_))))))))))))))
 refine dP (lp (bM (vs := []) (ps := []) rfl bz_102) rfl ?_)
 rw [hz]
 refine dM rfl rfl (lp (bL rfl (by (simp only [List.all_cons, List.all_nil, he.oneCell]; rfl)) (cJ _ _)) rfl (aJ (cR hs rfl rfl rfl (fun b67 w hb67 hbe67 hs => ?_))))
 replace hs := hs.drop hb67
 refine lp (cG Tryz.underlying93 (fun _ h => by cases h) rfl) rfl (aJ (dR 1 hs k_102 rfl rfl rfl hzl hzl hzf rfl (fun w hs => dN rfl rfl (aH (aV ⟨_, res2 ⟨_, rfl, aP k_102 (hs.g 1 rfl) hzl⟩ rfl, ?_⟩)))))
 exact ⟨_, _, _, .other, none, m1, rfl, (hs.drop hb5).drop hb2, askM_none hadv (by simp [ask, hname, ht, (hr.bad hc3).2]), hp, dA, hzl, hzf, fun h => by cases h⟩
 have hk : k = .ok := by simpa using hc3
 subst hk
 obtain ⟨hcl, rfl, _, hl2⟩ := hr.ok
 refine aW (dP (dM rfl rfl (dM rfl rfl (lp (aN rfl) rfl (lp (aR cI rfl) rfl (aJ (dQ 2 hs cH rfl rfl rfl rfl rfl rfl rfl (fun w hs => aH (dP (dM rfl rfl (lp (aN rfl) rfl (lp (aR cL rfl) rfl (lp (aO rfl (aQ cH (hs.g 2 rfl) rfl)) rfl (lp (bN rfl rfl (i64c (c := m1.index + 1) (by omega) (by omega))) rfl ?_))))))))))))))
 refine lp (aN rfl) rfl (lp (aR cL rfl) rfl (aJ (dQ 2 hs cH rfl rfl rfl rfl rfl rfl rfl (fun w hs => aH (aF ?_)))))
 have hRQ : RQ ⟨out, x1, x2⟩ (nmC out out.length ++ [.int .u16 x1, .int .u16 x2]) := ⟨rfl, ho⟩
 refine aB (lp (aO rfl (aP k_99 (hs.g 0 rfl) hnl)) rfl (dM rfl rfl (dM rfl rfl (lp (po_buildG [nmC out out.length, [.int .u16 x1], [.int .u16 x2]] st_102 rfl rfl rfl (by simp [hnl]) (show _ = nmC out out.length ++ [.int .u16 x1, .int .u16 x2] by simp)) rfl (aJ (dR 1 hs k_102 rfl rfl rfl hRQ.flat.1 hzl hRQ.flat.2 rfl (fun w hs => dN rfl rfl (aH (aV ⟨_, res2 ⟨_, rfl, aP k_102 (hs.g 1 rfl) hRQ.flat.1⟩ rfl, ?_⟩)))))))))
 exact ⟨_, _, _, .ok, _, _, rfl, (hs.drop hb5).drop hb2, askM_some hadv (a := ⟨out, x1, x2⟩) (e := o + 4) (by simp only [ask, hname, ht, hcl, Option.bind_some, Option.map_some]), PR.mk rfl, rfl, hRQ.flat.1, hRQ.flat.2, fun _ => ⟨_, rfl, hRQ⟩⟩
end
end Go.Proofs.YtmigokakpahgkaaGreatDoor
namespace Go.Proofs.YtmigokakpahgkaaGreatDoor
open Go
def unpackN (b : List UInt8) : Option PMsg :=
  if b.length < 12 then none else
  match allAsks b fuel { sec := 1, at_ := 12 } [] with
  | (.ok, al, m1) => match allRecs b 2 fuel m1 [] with
    | (.ok, r1, m2) => match allRecs b 3 fuel m2 [] with
      | (.ok, r2, m3) => match allRecs b 4 fuel m3 [] with
        | (.ok, r3, _) => some { id := w16 b 0, bits := w16 b 2, asks := al, answers := r1, authorities := r2, additionals := r3 }
        | _ => none
      | _ => none
    | _ => none
  | _ => none
theorem num_zero {k : EK} : k.num = 0 ↔ k = .ok := by cases k <;> simp [EK.num]
theorem stepM_1 (b : List UInt8) (m k : PM) : stepM b m k 1 = ((startM b).1, (startM b).2, k) := by simp [stepM]
theorem stepM_3 (b : List UInt8) (m k : PM) : stepM b m k 3 = ((questionM b m 3).1, (questionM b m 3).2, k) := by simp [stepM]
theorem stepM_8 (b : List UInt8) (m k : PM) : stepM b m k 8 = ((partM b m 2 2).1, (partM b m 2 2).2, k) := by simp [stepM]
theorem stepM_13 (b : List UInt8) (m k : PM) : stepM b m k 13 = ((partM b m 3 2).1, (partM b m 3 2).2, k) := by simp [stepM]
theorem stepM_18 (b : List UInt8) (m k : PM) : stepM b m k 18 = ((partM b m 4 2).1, (partM b m 4 2).2, k) := by simp [stepM]
theorem parse5 (b : List UInt8) : parseM b [1, 3, 8, 13, 18] =
    [(startM b).1, (questionM b (startM b).2 3).1, (partM b (questionM b (startM b).2 3).2 2 2).1, (partM b (partM b (questionM b (startM b).2 3).2 2 2).2 3 2).1, (partM b (partM b (partM b (questionM b (startM b).2 3).2 2 2).2 3 2).2 4 2).1] := by
  unfold parseM
  simp only [runM, stepM_1, stepM_3, stepM_8, stepM_13, stepM_18]
theorem questionM_s3 (b : List UInt8) (m : PM) : questionM b m 3 = ({ fault := (allAsks b fuel m []).1.num, asks := if (allAsks b fuel m []).1 = .ok then (allAsks b fuel m []).2.1 else [] }, (allAsks b fuel m []).2.2) := by
  unfold questionM; rw [if_neg (by decide), if_pos rfl]
theorem partM_s2 (b : List UInt8) (m : PM) (s : Nat) : partM b m s 2 = ({ fault := (allRecs b s fuel m []).1.num, recs := if (allRecs b s fuel m []).1 = .ok then (allRecs b s fuel m []).2.1 else [] }, (allRecs b s fuel m []).2.2) := by
  unfold partM; rw [if_neg (by decide), if_neg (by decide), if_pos rfl]
theorem unpackM_eq (b : List UInt8) : unpackM b = unpackN b := by
  unfold unpackM unpackN
  rw [parse5]
  by_cases hl : b.length < 12
  · rw [if_pos hl]
    simp [startM, hl]
  · rw [if_neg hl]
    have hst : startM b = ({ id := w16 b 0, bits := w16 b 2 }, { sec := 1, at_ := 12 }) := by unfold startM; rw [if_neg hl]
    simp only [hst, questionM_s3, partM_s2, num_zero, true_and]
    generalize allAsks b fuel { sec := 1, at_ := 12 } [] = q1
    obtain ⟨k1, al, m1⟩ := q1
    cases k1 <;> simp only [reduceCtorEq, false_and, if_false, if_true, true_and]
    generalize allRecs b 2 fuel m1 [] = q2
    obtain ⟨k2, r1, m2⟩ := q2
    cases k2 <;> simp only [reduceCtorEq, false_and, if_false, if_true, true_and]
    generalize allRecs b 3 fuel m2 [] = q3
    obtain ⟨k3, r2, m3⟩ := q3
    cases k3 <;> simp only [reduceCtorEq, false_and, if_false, if_true, true_and]
    generalize allRecs b 4 fuel m3 [] = q4
    obtain ⟨k4, r3, m4⟩ := q4
    cases k4 <;> simp only [reduceCtorEq, if_false, if_true]
section
variable {b : List UInt8} (c : List UInt8)
theorem byteAt_app {i : Nat} (h : i < b.length) : byteAt (b ++ c) i = byteAt b i := by
  unfold byteAt; simp [List.getD, List.getElem?_append_left h]
theorem w16_app {i : Nat} (h : i + 2 ≤ b.length) : w16 (b ++ c) i = w16 b i := by
  unfold w16; rw [byteAt_app c (by omega), byteAt_app c (by omega)]
theorem w32_app {i : Nat} (h : i + 4 ≤ b.length) : w32 (b ++ c) i = w32 b i := by
  unfold w32; rw [byteAt_app c (by omega), byteAt_app c (by omega), byteAt_app c (by omega), byteAt_app c (by omega)]
theorem seg_app {i n : Nat} (h : i + n ≤ b.length) : seg (b ++ c) i n = seg b i n := by
  unfold seg
  rw [List.drop_append_of_le_length (by omega), List.take_append_of_le_length (by simp; omega)]
theorem rd16_app {i x : Nat} (h : rd16 b i = some x) : rd16 (b ++ c) i = some x := by
  unfold rd16 at *
  split at h
  · rename_i hl
    rw [if_pos (by simp; omega), w16_app c hl]; exact h
  · cases h
theorem rd32_app {i x : Nat} (h : rd32 b i = some x) : rd32 (b ++ c) i = some x := by
  unfold rd32 at *
  split at h
  · rename_i hl
    rw [if_pos (by simp; omega), w32_app c hl]; exact h
  · cases h
theorem rdBytes_app {i n : Nat} {x : List UInt8} (h : rdBytes b i n = some x) : rdBytes (b ++ c) i n = some x := by
  unfold rdBytes at *
  split at h
  · rename_i hl
    rw [if_pos (by simp; omega), seg_app c hl]; exact h
  · cases h
theorem nameS_app {i : Nat} {out : List UInt8} {jumps e : Nat} {r : List UInt8 × Nat} (h : nameS b i out jumps e = some r) : nameS (b ++ c) i out jumps e = some r := by
  fun_induction nameS b i out jumps e with
  | case2 i out jumps e hi h0 h1 =>
    rw [nameS, dif_pos (by simp; omega), byteAt_app c hi, if_pos h0, if_neg h1]; exact h
  | case4 i out jumps e hi h0 hc hl hd ih =>
    rw [nameS, dif_pos (by simp; omega), byteAt_app c hi, if_neg h0, dif_pos hc, dif_pos (by simp; omega), seg_app c (by omega), if_neg hd]
    exact ih h
  | case6 i out jumps e hi h0 hc hc2 hl hj ih =>
    rw [nameS, dif_pos (by simp; omega), byteAt_app c hi, if_neg h0, dif_neg hc, if_pos hc2, if_pos (by simp; omega), dif_pos hj, byteAt_app c hl]
    exact ih h
  | _ => cases h
theorem name_app {i : Nat} {r : List UInt8 × Nat} (h : name b i = some r) : name (b ++ c) i = some r := nameS_app c h
theorem textsS_app {i e : Nat} {acc r : List (List UInt8)} (h : textsS b i e acc = some r) : textsS (b ++ c) i e acc = some r := by
  fun_induction textsS b i e acc with
  | case1 i acc hi hc ih =>
    rw [textsS, dif_pos hi, byteAt_app c hc.1, if_pos ⟨by simp; omega, by simp; omega, hc.2.2⟩, seg_app c (by omega)]
    exact ih h
  | case2 => cases h
  | case3 i acc hi => rw [textsS, dif_neg hi]; exact h
theorem optsS_app {i e : Nat} {acc r : List PPair} (h : optsS b i e acc = some r) : optsS (b ++ c) i e acc = some r := by
  fun_induction optsS b i e acc with
  | case1 i acc hi hc ih =>
    rw [optsS, dif_pos hi, w16_app c (by omega), w16_app c (by omega), if_pos ⟨by simp; omega, by simp; omega⟩, seg_app c (by omega)]
    exact ih h
  | case2 => cases h
  | case3 i acc hi => rw [optsS, dif_neg hi]; exact h
theorem parsS_app {i e : Nat} {acc r : List PPair} (h : parsS b i e acc = some r) : parsS (b ++ c) i e acc = some r := by
  fun_induction parsS b i e acc with
  | case1 i acc hi hc ih =>
    rw [parsS, dif_pos hi, w16_app c (by omega), w16_app c (by omega), if_pos ⟨by simp; omega, by simp; omega, hc.2.2⟩, seg_app c (by omega)]
    exact ih h
  | case2 => cases h
  | case3 acc hi => rw [parsS, dif_neg hi, if_pos rfl]; exact h
  | case4 => cases h
theorem body_app {i kind len : Nat} {r : PRec} (h : body b i kind len = some r) : body (b ++ c) i kind len = some r := by
  unfold body at *
  split at h <;> simp only [Option.bind_eq_some_iff, Option.map_eq_some_iff] at h ⊢
  · obtain ⟨d, h1, h2⟩ := h; exact ⟨d, rdBytes_app c h1, h2⟩
  · obtain ⟨d, h1, h2⟩ := h; exact ⟨d, rdBytes_app c h1, h2⟩
  · obtain ⟨d, h1, h2⟩ := h; exact ⟨d, name_app c h1, h2⟩
  · obtain ⟨d, h1, h2⟩ := h; exact ⟨d, name_app c h1, h2⟩
  · obtain ⟨d, h1, h2⟩ := h; exact ⟨d, name_app c h1, h2⟩
  · obtain ⟨n, h1, d, h2, h3⟩ := h; exact ⟨n, rd16_app c h1, d, name_app c h2, h3⟩
  · obtain ⟨n, h1, n2, h2, n3, h3, d, h4, h5⟩ := h; exact ⟨n, rd16_app c h1, n2, rd16_app c h2, n3, rd16_app c h3, d, name_app c h4, h5⟩
  · obtain ⟨d, h1, x, h2, n1, k1, n2, k2, n3, k3, n4, k4, n5, k5, h3⟩ := h
    exact ⟨d, name_app c h1, x, name_app c h2, n1, rd32_app c k1, n2, rd32_app c k2, n3, rd32_app c k3, n4, rd32_app c k4, n5, rd32_app c k5, h3⟩
  · obtain ⟨d, h1, h2⟩ := h; exact ⟨d, textsS_app c h1, h2⟩
  · obtain ⟨d, h1, h2⟩ := h; exact ⟨d, optsS_app c h1, h2⟩
  · obtain ⟨n, h1, d, h2, p, h3, h4⟩ := h; exact ⟨n, rd16_app c h1, d, name_app c h2, p, parsS_app c h3, h4⟩
  · obtain ⟨n, h1, d, h2, p, h3, h4⟩ := h; exact ⟨n, rd16_app c h1, d, name_app c h2, p, parsS_app c h3, h4⟩
  · obtain ⟨d, h1, h2⟩ := h; exact ⟨d, rdBytes_app c h1, h2⟩
theorem ask_app {i : Nat} {r : PAsk × Nat} (h : ask b i = some r) : ask (b ++ c) i = some r := by
  unfold ask at *
  simp only [Option.bind_eq_some_iff, Option.map_eq_some_iff] at h ⊢
  obtain ⟨d, h1, n, h2, k, h3, h4⟩ := h
  exact ⟨d, name_app c h1, n, rd16_app c h2, k, rd16_app c h3, h4⟩
theorem header_app {i : Nat} {r : PRec × Nat} (h : header b i = some r) : header (b ++ c) i = some r := by
  unfold header at *
  simp only [Option.bind_eq_some_iff, Option.map_eq_some_iff] at h ⊢
  obtain ⟨d, h1, n, h2, k, h3, t, h4, g, h5, h6⟩ := h
  exact ⟨d, name_app c h1, n, rd16_app c h2, k, rd16_app c h3, t, rd32_app c h4, g, rd16_app c h5, h6⟩
variable (h12 : 12 ≤ b.length)
include h12
theorem count_app {s : Nat} (hs : s ≤ 4) : count (b ++ c) s = count b s := by unfold count; exact w16_app c (by omega)
theorem advance_app (m : PM) {s : Nat} (hs : s ≤ 4) : advance (b ++ c) m s = advance b m s := by unfold advance; rw [count_app c h12 hs]
theorem askM_app {m : PM} {k : EK} {ao : Option PAsk} {m' : PM} (h : askM b m = (k, ao, m')) (hk : k = .ok ∧ ao.isSome = true ∨ k = .done) : askM (b ++ c) m = (k, ao, m') := by
  unfold askM at *
  rw [advance_app c h12 m (by decide)]
  split at h
  · split at h
    · rename_i ha; simp only [ask_app c ha]; exact h
    · cases h; simp at hk
  · exact h
theorem allAsks_app {f : Nat} {m m' : PM} {acc al : List PAsk} (h : allAsks b f m acc = (.ok, al, m')) : allAsks (b ++ c) f m acc = (.ok, al, m') := by
  induction f generalizing m acc with
  | zero => exact h
  | succ f ih =>
    unfold allAsks at h ⊢
    split at h
    · rename_i ha; rw [askM_app c h12 ha (.inl ⟨rfl, rfl⟩)]; exact ih h
    · cases h
    · rename_i ha; rw [askM_app c h12 ha (.inr rfl)]; exact h
    · rename_i k2 f2 m2 h1 h2 h3 ha
      cases h
      cases f2 with
      | none => exact (h2 rfl rfl).elim
      | some a => exact (h1 a rfl rfl).elim
theorem beginM_app {m : PM} {s : Nat} {k : EK} {ao : Option PRec} {m' : PM} (hs : s ≤ 4) (h : beginM b m s = (k, ao, m')) (hk : k = .ok ∧ ao.isSome = true ∨ k = .done) : beginM (b ++ c) m s = (k, ao, m') := by
  unfold beginM at *
  rw [advance_app c h12 _ hs]
  split at h
  · split at h
    · rename_i ha; simp only [header_app c ha]; exact h
    · cases h; simp at hk
  · exact h
theorem recordM_app {m : PM} {s : Nat} {k : EK} {ao : Option PRec} {m' : PM} (hs : s ≤ 4) (h : recordM b m s = (k, ao, m')) (hk : k = .ok ∧ ao.isSome = true ∨ k = .done) : recordM (b ++ c) m s = (k, ao, m') := by
  unfold recordM at *
  split at h
  · rename_i hb
    rw [beginM_app c h12 hs hb (.inl ⟨rfl, rfl⟩)]
    split at h
    · rename_i ha; simp only [body_app c ha]; exact h
    · cases h; simp at hk
  · rename_i k2 ro m2 hno hb
    cases h
    rw [beginM_app (k := k) (ao := ro) c h12 hs hb (by
      rcases hk with ⟨_, h2⟩ | h2
      · simp at h2
      · exact .inr h2)]
    rcases hk with ⟨_, h2⟩ | rfl
    · simp at h2
    · rfl
theorem allRecs_app {f s : Nat} {m m' : PM} {acc al : List PRec} (hs : s ≤ 4) (h : allRecs b s f m acc = (.ok, al, m')) : allRecs (b ++ c) s f m acc = (.ok, al, m') := by
  induction f generalizing m acc with
  | zero => exact h
  | succ f ih =>
    unfold allRecs at h ⊢
    split at h
    · rename_i ha; rw [recordM_app c h12 hs ha (.inl ⟨rfl, rfl⟩)]; exact ih h
    · cases h
    · rename_i ha; rw [recordM_app c h12 hs ha (.inr rfl)]; exact h
    · rename_i k2 f2 m2 h1 h2 h3 ha
      cases h
      cases f2 with
      | none => exact (h2 rfl rfl).elim
      | some a => exact (h1 a rfl rfl).elim
omit h12 in
theorem unpackM_app {x : PMsg} (h : unpackM b = some x) : unpackM (b ++ c) = some x := by
  rw [unpackM_eq] at h ⊢
  unfold unpackN at h
  split at h
  · cases h
  rename_i hl
  split at h
  · rename_i h1
    split at h
    · rename_i h2
      split at h
      · rename_i h3
        split at h
        · rename_i h4
          unfold unpackN
          rw [if_neg (by simp; omega)]
          rw [allAsks_app c (by omega) h1]
          simp only [allRecs_app c (by omega : 12 ≤ b.length) (by decide : 2 ≤ 4) h2, allRecs_app c (by omega : 12 ≤ b.length) (by decide : 3 ≤ 4) h3, allRecs_app c (by omega : 12 ≤ b.length) (by decide : 4 ≤ 4) h4]
          rw [w16_app c (by omega), w16_app c (by omega)]
          exact h
        · cases h
      · cases h
    · cases h
  · cases h
end
end Go.Proofs.YtmigokakpahgkaaGreatDoor
namespace Go.Proofs.YtmigokakpahgkaaGreatDoor
open Go
def endM (b : List UInt8) : PM → PM → List Int → PM × PM
  | m, k, [] => (m, k)
  | m, k, s :: r => endM b (stepM b m k s).2.1 (stepM b m k s).2.2 r
theorem runM_len (b : List UInt8) : ∀ (xs : List Int) (m k : PM), (runM b m k xs).length = xs.length
  | [], _, _ => rfl
  | s :: r, m, k => by simp only [runM, List.length_cons, runM_len b r]
theorem runM_app (b : List UInt8) (ys : List Int) : ∀ (xs : List Int) (m k : PM), runM b m k (xs ++ ys) = runM b m k xs ++ runM b (endM b m k xs).1 (endM b m k xs).2 ys
  | [], _, _ => rfl
  | s :: r, m, k => by simp only [List.cons_append, runM, endM, runM_app b ys r]
theorem endM_app (b : List UInt8) (ys : List Int) : ∀ (xs : List Int) (m k : PM), endM b m k (xs ++ ys) = endM b (endM b m k xs).1 (endM b m k xs).2 ys
  | [], _, _ => rfl
  | s :: r, m, k => by simp only [List.cons_append, endM, endM_app b ys r]
theorem runM_at (b : List UInt8) (xs ys : List Int) (m k : PM) (j : Nat) : (runM b m k (xs ++ ys))[xs.length + j]? = (runM b (endM b m k xs).1 (endM b m k xs).2 ys)[j]? := by
  rw [runM_app, List.getElem?_append_right (by rw [runM_len]; omega), runM_len]
  congr 1
  omega
section
variable {b : List UInt8} {s : Nat} {st : Int}
theorem recordM_ok_some {m m' : PM} {ro : Option PRec} (h : recordM b m s = (.ok, ro, m')) : ∃ r, ro = some r := by
  unfold recordM at h
  split at h
  · split at h
    · cases h; exact ⟨_, rfl⟩
    · cases h
  · rename_i k2 ro2 m2 hno hb
    have h1 : k2 = .ok := congrArg Prod.fst h
    subst h1
    obtain ⟨r, _, _, _, _, h3, _⟩ := beginM_ok hb
    subst h3
    exact (hno r rfl rfl).elim
def rowsTo (l : List PSeen) (j : Nat) : List PRec := (l.take j).flatMap (·.recs)
theorem all_each (hst : ∀ m k, stepM b m k st = ((partM b m s 1).1, (partM b m s 1).2, k)) (k : PM) : ∀ (j r n : Nat) (m : PM) (acc : List PRec) (x : PSeen), r ≤ n → (runM b m k (List.replicate r st))[j]? = some x →
    (∀ i y, i < j → (runM b m k (List.replicate r st))[i]? = some y → y.fault = 0) →
    (x.fault = 2 → (allRecs b s n m acc).1 = .ok ∧ (allRecs b s n m acc).2.1 = acc ++ rowsTo (runM b m k (List.replicate r st)) j) ∧ (x.fault ≠ 0 → x.fault ≠ 2 → (allRecs b s n m acc).1.num = x.fault) := by
  intro j
  induction j with
  | zero =>
    intro r n m acc x hr hx _
    cases r with
    | zero => simp [runM] at hx
    | succ r =>
      obtain ⟨n, rfl⟩ : ∃ n', n = n' + 1 := ⟨n - 1, by omega⟩
      simp only [List.replicate_succ, runM, hst, List.getElem?_cons_zero, Option.some.injEq] at hx
      subst hx
      unfold allRecs partM
      rw [if_neg (by decide), if_pos rfl]
      generalize recordM b m s = q
      obtain ⟨k1, ro, m1⟩ := q
      cases k1 <;> cases ro <;> simp [onlyRec, EK.num, rowsTo]
  | succ j ih =>
    intro r n m acc x hr hx hall
    cases r with
    | zero => simp [runM] at hx
    | succ r =>
      obtain ⟨n, rfl⟩ : ∃ n', n = n' + 1 := ⟨n - 1, by omega⟩
      have h0 := hall 0 (partM b m s 1).1 (by omega) (by simp only [List.replicate_succ, runM, hst, List.getElem?_cons_zero])
      obtain ⟨k1, ro, m1, hq⟩ : ∃ k1 ro m1, recordM b m s = (k1, ro, m1) := ⟨_, _, _, rfl⟩
      have hp : partM b m s 1 = (onlyRec k1 ro, m1) := by unfold partM; rw [if_neg (by decide), if_pos rfl]; simp only [hq]
      rw [hp] at h0
      have hk1 : k1 = .ok := num_zero.1 h0
      subst hk1
      obtain ⟨a, rfl⟩ := recordM_ok_some hq
      have hrest : runM b m k (List.replicate (r + 1) st) = onlyRec .ok (some a) :: runM b m1 k (List.replicate r st) := by simp only [List.replicate_succ, runM, hst, hp]
      have hnext : allRecs b s (n + 1) m acc = allRecs b s n m1 (acc ++ [a]) := by
        conv => lhs; unfold allRecs
        rw [hq]
      rw [hrest] at hx hall ⊢
      have h2 := ih r n m1 (acc ++ [a]) x (by omega) (by simpa using hx) (fun i y hi hy => hall (i + 1) y (by omega) (by simpa using hy))
      rw [hnext]
      refine ⟨fun h => ?_, h2.2⟩
      obtain ⟨e1, e2⟩ := h2.1 h
      refine ⟨e1, ?_⟩
      rw [e2]
      simp [rowsTo, onlyRec]
end
end Go.Proofs.YtmigokakpahgkaaGreatDoor

/- The parser: questions. The parser: all questions; the sections of records. The parser: bodies behind a header. -/
import Derived.Test.YtgpfjlfkaoffeaaGreatDoorR13
set_option linter.all false
namespace Go.Proofs.YtgpfjlfkaoffeaaGreatDoor
open Go
def RQ (a : PAsk) (c : List Value) : Prop := c = nmC a.name a.name.length ++ [.int .u16 a.type, .int .u16 a.cls] ∧ a.name.length ≤ 254
theorem RQ.flat {a : PAsk} {c : List Value} (h : RQ a c) : c.length = 258 ∧ Flat c := by
 obtain ⟨rfl, h⟩ := h
 exact ⟨by rw [List.length_append, cM (by omega)]; rfl, fD (eU _ _) (aG rfl)⟩
def RQs (V : Vw) (v : Value) (l : List PAsk) : Prop := ∃ xs, SlV V 258 v l.length xs ∧ Rows 258 RQ l xs
section
variable {l : List UInt8} {m m' m1 : PM} {k : EK}
theorem askM_bad (h : fH l m 1 = (k, m1)) (hk : k ≠ .ok) : askM l m = (k, none, m1) := by
 unfold askM; rw [h]; cases k <;> first | rfl | exact absurd rfl hk
theorem askM_none (h : fH l m 1 = (.ok, m1)) (hh : ask l m1.at_ = none) : askM l m = (.other, none, m1) := by
 unfold askM; rw [h]; simp only [hh]
theorem askM_some {a : PAsk} {e : Nat} (h : fH l m 1 = (.ok, m1)) (hh : ask l m1.at_ = some (a, e)) : askM l m = (.ok, some a, { m1 with at_ := e, index := m1.index + 1 }) := by
 unfold askM; rw [h]; simp only [hh]
def Nxt (l : List UInt8) (s : Nat) (m m' : PM) : Prop := m.sec = s ∧ m'.sec = s ∧ m'.index = m.index + 1 ∧ m.index < count l s
theorem askM_nxt {a : Option PAsk} (hwf : WF l m) (h : askM l m = (.ok, a, m')) : Nxt l 1 m m' := by
 obtain ⟨k, m1, hadv⟩ : ∃ k m1, fH l m 1 = (k, m1) := ⟨_, _, rfl⟩
 by_cases hk : k = .ok
 subst hk
 obtain ⟨e1, e2, e3, e4, e5⟩ := advance_lt hwf (by decide) (by decide) hadv
 obtain ⟨f1, _, _⟩ := advance_ok hadv
 cases hh : ask l m1.at_ with
 | none => rw [askM_none hadv hh] at h; cases h
 | some p => obtain ⟨a, e⟩ := p; rw [askM_some hadv hh] at h; cases h; exact ⟨f1, e1, by rw [← e4], by rw [← e4]; exact e2⟩
 rw [askM_bad hadv hk] at h; cases h; exact absurd rfl hk
end
section
variable {A : Nat → Addr} {V : Vw} {w0 : World} {l : List UInt8} {mv : Value} {bp : Nat} {E : TypeId} {m : PM} {cs : List Value}
set_option maxHeartbeats 1000000 in
theorem c_question (hG : Gl A V) (hV : V.In w0) (hb : RB V mv l) (hown : w0.heap[bp]? = some (.cells cs.toArray E (0, 0))) (hvn : V bp = none) (hp : PR l mv m cs) (hwf : WF l m) (h2l : l.length ≤ 4294967296) :
  eC Tryz.prog 68 #[.pointer (some ⟨bp, 0, none⟩)] w0 fun v w' => ∃ (cs' qcs : List Value) (e : Value) (k : EK) (ao : Option PAsk) (m' : PM), v = .tuple #[.agg qcs.toArray, e] ∧ St ⟨w0, V, V⟩ w' [(bp, .cells cs'.toArray E (0, 0))] ∧
   askM l m = (k, ao, m') ∧ PR l mv m' cs' ∧ ErrV A e k ∧ qcs.length = 258 ∧ Flat qcs ∧ (k = .ok → ∃ a, ao = some a ∧ RQ a qcs) := by
 have hs := St.start1 hV hown (bU _ _) hvn
 have hz : rep 256 (Value.int .u8 0) ++ [.int .u16 0, .int .u16 0] = nmC [] 0 ++ [.int .u16 0, .int .u16 0] := by rw [rep256]
 have hzl : (nmC [] 0 ++ [Value.int .u16 0, .int .u16 0]).length = 258 := by rw [List.length_append, cM (by simp)]; rfl
 have hzf : Flat (nmC [] 0 ++ [Value.int .u16 0, .int .u16 0]) := fD (eU _ _) (aG rfl)
 refine aT [_] Tryz.func68 Tryz.ntmps68 Tryz.results68 rfl rfl (dP (aJ (aX hs z_90 rfl (fun b2 w hb2 he2 hs => ?_))))
 rw [hz] at hs
 refine dN rfl rfl (aH (aF (dP (dM rfl rfl (aZ ok_150 rfl rfl (c_checkAdvance hG hs.isIn (hs.g 1 rfl) (hs.off (k := 1) rfl) hp hwf.secs 1 rfl (by decide) (by decide)) rfl (fun v11 w HF => ?_))))))
 obtain ⟨cs', hc, hp, he⟩ := HF
 replace hs := hs.frame1 (k := 1) rfl rfl hc
 obtain ⟨k, m1, hadv⟩ : ∃ k m1, fH l m 1 = (k, m1) := ⟨_, _, rfl⟩
 rw [hadv] at hp he
 simp only at hp he
 refine dN rfl rfl (aH (dP (dM rfl rfl (lp (bB he rfl) rfl (aH (bH rfl (fun hc0 => ?_) (fun hc0 => ?_)))))))
 refine dP (lp (bM (vs := []) (ps := []) rfl bz_90) rfl ?_)
 rw [hz]
 refine dM rfl rfl (aJ (dR 0 hs k_90 rfl rfl rfl hzl hzl hzf rfl (fun w hs => dN rfl rfl (aH (aV ⟨_, fX ⟨_, rfl, aP k_90 (hs.g 0 rfl) hzl⟩ rfl, ?_⟩)))))
 exact ⟨_, _, _, k, none, m1, rfl, hs.drop hb2, askM_bad hadv hc0, hp, he, hzl, hzf, fun h => absurd h hc0⟩
 have hk : k = .ok := by simpa using hc0
 subst hk
 obtain ⟨e1, e2, e3, e4, e5⟩ := advance_lt hwf (by decide) (by decide) hadv
 have hat := hwf.at_le
 have hcn := cW l 1
 obtain rfl := hp.get (by omega)
 refine aW (dP (aJ (aX hs z_86 rfl (fun b5 w hb5 he5 hs => ?_))))
 rw [rep256] at hs
 refine aH (aF (bV hs [3, 7] mixed (fun w hs => dI 0 rfl (fun w => aC rfl) rfl rfl (dI 1 rfl (fun w => aN rfl) rfl rfl (dI 2 rfl (fun w => aR fo_100_0 rfl) rfl rfl (dJ 3 rfl hs rfl (fun w hs => (aO rfl (aQ k_23 (hs.g 2 rfl) rfl))) rfl (dI 4 rfl (fun w => aC rfl) rfl rfl (dI 5 rfl (fun w => aN rfl) rfl rfl (dI 6 rfl (fun w => aR fo_100_3 rfl) rfl rfl (dJ 7 rfl hs rfl (fun w hs => (aO rfl (aQ cH (hs.g 2 rfl) rfl))) rfl (dL 8 rfl (cF (cD rfl rfl ok_151 (c_nameUnpack (pre := []) (post := []) hG hs.isIn hb rfl (by have := hs.g 0 rfl; rw [List.nil_append, List.append_nil]; exact this) (hs.off (k := 0) rfl) m1.at_ rfl (by omega) (by omega))) rfl (fun v25 w HF => ?_)))))))))))))
 obtain ⟨o, k, e, out, z, rfl, he, ho, hz2, hc, hr⟩ := HF
 replace hs := hs.frame1 (k := 0) rfl rfl hc
 rw [List.nil_append, List.append_nil] at hs
 have hnl := cM (n := z) (Nat.le_trans ho (by decide : 254 ≤ 255))
 refine ⟨fun h => absurd h (by decide +kernel), dI 9 rfl (fun w => aC rfl) rfl rfl (dI 10 rfl (fun w => aI rfl rfl) rfl rfl (dI 11 rfl (fun w => aI rfl rfl) rfl rfl (dI 12 rfl (fun w => aD rfl) rfl rfl (dI 13 rfl (fun w => aD rfl) rfl rfl (bS (by decide +kernel) (aF (dP (dM rfl rfl (lp (bB he rfl) rfl (aH (bH rfl (fun hc1 => ?_) (fun hc1 => ?_))))))))))))⟩
 refine dP (lp (bM (vs := []) (ps := []) rfl bz_90) rfl ?_)
 rw [hz]
 refine dM rfl rfl (lp (bL rfl (by (simp only [List.all_cons, List.all_nil, he.oneCell]; rfl)) (eI _ _)) rfl (aJ (cR hs rfl rfl rfl (fun b33 w hb33 hbe33 hs => ?_))))
 replace hs := hs.drop hb33
 refine lp (cG Tryz.underlying139 (fun _ h => by cases h) rfl) rfl (aJ (dR 1 hs k_90 rfl rfl rfl hzl hzl hzf rfl (fun w hs => dN rfl rfl (aH (aV ⟨_, fX ⟨_, rfl, aP k_90 (hs.g 1 rfl) hzl⟩ rfl, ?_⟩)))))
 exact ⟨_, _, _, .other, none, m1, rfl, (hs.drop hb5).drop hb2, askM_none hadv (by simp [ask, (hr.bad hc1).2]), hp, dA, hzl, hzf, fun h => by cases h⟩
 have hk : k = .ok := by simpa using hc1
 subst hk
 obtain ⟨hname, rfl⟩ := hr.ok
 have hol := (name_some hname).2.2
 refine aW (dP (dM rfl rfl (lp (aN rfl) rfl (lp (aR fo_100_0 rfl) rfl (lp (aO rfl (aQ k_23 (hs.g 2 rfl) rfl)) rfl (dM rfl rfl (aZ ok_152 rfl rfl (c_unpackType hG hs.isIn hb o rfl (by omega) (by omega)) rfl (fun v41 w HF => ?_))))))))
 obtain ⟨hc, x1, o1, k, e, rfl, he, hr⟩ := HF
 replace hs := hs.frame hc
 refine dM rfl rfl (dO rfl rfl rfl (dO rfl rfl rfl (dO rfl rfl rfl (dN rfl rfl (dN rfl rfl (dN rfl rfl (aH (aF (dP (dM rfl rfl (lp (bB he rfl) rfl (aH (bH rfl (fun hc2 => ?_) (fun hc2 => ?_))))))))))))))
 refine dP (lp (bM (vs := []) (ps := []) rfl bz_90) rfl ?_)
 rw [hz]
 refine dM rfl rfl (lp (bL rfl (by (simp only [List.all_cons, List.all_nil, he.oneCell]; rfl)) (eI _ _)) rfl (aJ (cR hs rfl rfl rfl (fun b50 w hb50 hbe50 hs => ?_))))
 replace hs := hs.drop hb50
 refine lp (cG Tryz.underlying139 (fun _ h => by cases h) rfl) rfl (aJ (dR 1 hs k_90 rfl rfl rfl hzl hzl hzf rfl (fun w hs => dN rfl rfl (aH (aV ⟨_, fX ⟨_, rfl, aP k_90 (hs.g 1 rfl) hzl⟩ rfl, ?_⟩)))))
 exact ⟨_, _, _, .other, none, m1, rfl, (hs.drop hb5).drop hb2, askM_none hadv (by simp [ask, hname, (hr.bad hc2).2]), hp, dA, hzl, hzf, fun h => by cases h⟩
 have hk : k = .ok := by simpa using hc2
 subst hk
 obtain ⟨ht, rfl, _, hl1⟩ := hr.ok
 refine aW (dP (dM rfl rfl (lp (aN rfl) rfl (lp (aR fo_100_0 rfl) rfl (lp (aO rfl (aQ k_23 (hs.g 2 rfl) rfl)) rfl (dM rfl rfl (aZ ok_153 rfl rfl (c_unpackClass hG hs.isIn hb (o + 2) rfl (by omega) (by omega)) rfl (fun v58 w HF => ?_))))))))
 obtain ⟨hc, x2, o2, k, e, rfl, he, hr⟩ := HF
 replace hs := hs.frame hc
 refine dM rfl rfl (dO rfl rfl rfl (dO rfl rfl rfl (dO rfl rfl rfl (dN rfl rfl (dN rfl rfl (dN rfl rfl (aH (aF (dP (dM rfl rfl (lp (bB he rfl) rfl (aH (bH rfl (fun hc3 => ?_) (fun hc3 => ?_))))))))))))))
 refine dP (lp (bM (vs := []) (ps := []) rfl bz_90) rfl ?_)
 rw [hz]
 refine dM rfl rfl (lp (bL rfl (by (simp only [List.all_cons, List.all_nil, he.oneCell]; rfl)) (eI _ _)) rfl (aJ (cR hs rfl rfl rfl (fun b67 w hb67 hbe67 hs => ?_))))
 replace hs := hs.drop hb67
 refine lp (cG Tryz.underlying139 (fun _ h => by cases h) rfl) rfl (aJ (dR 1 hs k_90 rfl rfl rfl hzl hzl hzf rfl (fun w hs => dN rfl rfl (aH (aV ⟨_, fX ⟨_, rfl, aP k_90 (hs.g 1 rfl) hzl⟩ rfl, ?_⟩)))))
 exact ⟨_, _, _, .other, none, m1, rfl, (hs.drop hb5).drop hb2, askM_none hadv (by simp [ask, hname, ht, (hr.bad hc3).2]), hp, dA, hzl, hzf, fun h => by cases h⟩
 have hk : k = .ok := by simpa using hc3
 subst hk
 obtain ⟨hcl, rfl, _, hl2⟩ := hr.ok
 refine aW (dP (dM rfl rfl (dM rfl rfl (lp (aN rfl) rfl (lp (aR fo_100_3 rfl) rfl (aJ (dQ 2 hs cH rfl rfl rfl rfl rfl rfl rfl (fun w hs => aH (dP (dM rfl rfl (lp (aN rfl) rfl (lp (aR fo_100_4 rfl) rfl (lp (aO rfl (aQ cH (hs.g 2 rfl) rfl)) rfl (lp (bN rfl rfl (fV (c := m1.index + 1) (by omega) (by omega))) rfl ?_))))))))))))))
 refine lp (aN rfl) rfl (lp (aR fo_100_4 rfl) rfl (aJ (dQ 2 hs cH rfl rfl rfl rfl rfl rfl rfl (fun w hs => aH (aF ?_)))))
 have hRQ : RQ ⟨out, x1, x2⟩ (nmC out out.length ++ [.int .u16 x1, .int .u16 x2]) := ⟨rfl, ho⟩
 refine aB (lp (aO rfl (aP k_86 (hs.g 0 rfl) hnl)) rfl (dM rfl rfl (dM rfl rfl (lp (fO [nmC out out.length, [.int .u16 x1], [.int .u16 x2]] st_90 rfl rfl rfl (by simp [hnl]) (show _ = nmC out out.length ++ [.int .u16 x1, .int .u16 x2] by simp)) rfl (aJ (dR 1 hs k_90 rfl rfl rfl hRQ.flat.1 hzl hRQ.flat.2 rfl (fun w hs => dN rfl rfl (aH (aV ⟨_, fX ⟨_, rfl, aP k_90 (hs.g 1 rfl) hRQ.flat.1⟩ rfl, ?_⟩)))))))))
 exact ⟨_, _, _, .ok, _, _, rfl, (hs.drop hb5).drop hb2, askM_some hadv (a := ⟨out, x1, x2⟩) (e := o + 4) (by simp only [ask, hname, ht, hcl, Option.bind_some, Option.map_some]), PR.mk rfl, rfl, hRQ.flat.1, hRQ.flat.2, fun _ => ⟨_, rfl, hRQ⟩⟩
end
end Go.Proofs.YtgpfjlfkaoffeaaGreatDoor
namespace Go.Proofs.YtgpfjlfkaoffeaaGreatDoor
open Go
def RRess (V : Vw) (v : Value) (l : List fY) : Prop := ∃ xs, SlV V 261 v l.length xs ∧ Rows 261 (RRes V) l xs
theorem recordM_nxt {l : List UInt8} {m m' : PM} {s : Nat} {r : Option fY} (hwf : WF l m) (h1 : 1 ≤ s) (h2 : s ≤ 4) (h : recordM l m s = (.ok, r, m')) : Nxt l s m m' := by
 obtain ⟨k, ro, m1, hb⟩ : ∃ k ro m1, beginM l m s = (k, ro, m1) := ⟨_, _, _, rfl⟩
 by_cases hk : k = .ok
 subst hk
 obtain ⟨x, o, m2, hadv, hhd, rfl, hm'⟩ := beginM_ok hb
 obtain ⟨e1, e2, e3, e4, e5⟩ := advance_lt (wf_m1 hwf) h1 h2 hadv
 obtain ⟨f1, _, _⟩ := advance_ok hadv
 rw [m1Of_sec] at f1
 have hix : (m1Of m).index = m.index := by unfold m1Of; split <;> rfl
 cases hbd : body l m1.at_ (eE x.type) x.length with
 | none => rw [recordM_none hb hbd] at h; cases h
 | some y =>
  rw [recordM_some hb hbd] at h
  cases h
  refine ⟨f1, by rw [hm']; exact e1, ?_, by rw [← hix, ← e4]; exact e2⟩
  show m1.index + 1 = m.index + 1
  rw [hm', ← hix, ← e4]
 rw [recordM_bad hb hk] at h; cases h; exact absurd rfl hk
section
variable {A : Nat → Addr} {V : Vw} {w0 : World} {l : List UInt8} {mv : Value} {bp : Nat} {E : TypeId} {m : PM} {cs : List Value}
set_option maxHeartbeats 1000000 in
theorem c_allQuestions (hG : Gl A V) (hV : V.In w0) (hb : RB V mv l) (hown : w0.heap[bp]? = some (.cells cs.toArray E (0, 0))) (hvn : V bp = none) (hp : PR l mv m cs) (hwf : WF l m) (h2l : l.length ≤ 4294967296) :
  eC Tryz.prog 42 #[.pointer (some ⟨bp, 0, none⟩)] w0 fun v w' => ∃ (V' : Vw) (cs' : List Value) (qv e : Value) (k : EK) (al : List PAsk) (m' : PM), v = .tuple #[qv, e] ∧ St ⟨w0, V, V'⟩ w' [(bp, .cells cs'.toArray E (0, 0))] ∧
   fQ l fuel m [] = (k, al, m') ∧ PR l mv m' cs' ∧ WF l m' ∧ ErrV A e k ∧ qv.oneCell' = true ∧ (k = .ok → RQs V' qv al) := by
 have hs := St.start1 hV hown (bU _ _) hvn
 have hzl : (rep 256 (Value.int .u8 0) ++ [Value.int .u16 0, Value.int .u16 0]).length = 258 := by simp
 refine aT [_] Tryz.func42 Tryz.ntmps42 Tryz.results42 rfl rfl (dP (dN rfl rfl (dN rfl rfl (aH (dP (aJ (fP es_51 hs rfl (fun b7 w hb7 he7 hs => ?_))))))))
 have hsl : Sl 90 258 ⟨w0, V, V⟩ w [(bp, .cells cs.toArray E (0, 0))] (.slice (some ⟨b7, 0, none⟩) 0 0) 0 [] := ⟨rfl, .inr ⟨b7, 0, [], rfl, rfl, by omega, by decide, hb7, hs⟩⟩
 refine dN rfl rfl (aH (bQ (dC (fun g : PM × Nat × List Value × List PAsk × List Value × Value => eH (eH emp 4 g.2.2.2.2.2) 0 (.pointer (some ⟨bp, 0, none⟩))) (fun g w' => Sl 90 258 ⟨w0, V, V⟩ w' [(bp, .cells g.2.2.1.toArray E (0, 0))] g.2.2.2.2.2 g.2.2.2.1.length g.2.2.2.2.1 ∧ Rows 258 RQ g.2.2.2.1 g.2.2.2.2.1 ∧ PR l mv g.1 g.2.2.1 ∧ WF l g.1 ∧ fQ l g.2.1 g.1 g.2.2.2.1 = fQ l fuel m [] ∧ 1 ≤ g.2.1 ∧ (g.1.sec = 1 → count l 1 - g.1.index < g.2.1) ∧ g.2.1 + g.2.2.2.1.length = fuel) (fun g => g.2.1) (m, fuel, cs, [], [], .slice (some ⟨b7, 0, none⟩) 0 0) (aL rfl (aL rfl (bG _))) ⟨hsl, rfl, hp, hwf, rfl, (by decide : 1 ≤ fuel), fun _ => by have := cW l 1; show _ < 65537; omega, rfl⟩ ?_)))
 clear hs hsl hp hwf
 rintro ⟨mm, f, cc, acc, xs, sv⟩ w ⟨hsl, hrows, hp, hwf, heq, hf1, hf2, hf3⟩
 simp only at hsl hrows hp hwf heq hf1 hf2 hf3 ⊢
 have hfu : fuel = 65537 := rfl
 obtain ⟨f, rfl⟩ : ∃ f', f = f' + 1 := ⟨f - 1, by omega⟩
 obtain ⟨X, hX, hs⟩ := hsl.open
 refine bQ (dP (dM rfl rfl (aZ ok_68 rfl rfl (c_question hG hs.isIn hb (hs.g 0 rfl) (hs.off (k := 0) rfl) hp hwf h2l) rfl (fun v10 w HF => ?_))))
 obtain ⟨cs', qcs, e, k, ao, m', rfl, hc, hpm, hp, he, hql, hqf, hq⟩ := HF
 replace hs := hs.frame1 (k := 0) rfl rfl hc
 have hwf' := wf_askM hwf
 rw [hpm] at hwf'
 rw [fQ, hpm] at heq
 refine dM rfl rfl (dO rfl rfl rfl (dO rfl rfl rfl (aJ (aX hs z_90 rfl (fun b5 w hb5 he5 hs => aJ (dR 0 hs k_90 rfl rfl rfl hql hzl hqf rfl (fun w hs => dN rfl rfl (aH (aF (dP (dM rfl rfl (lp (aO rfl (bR k_57 (hG.ld hs.isIn (g := 5) rfl))) rfl (lp (po_err_eq_g (.inr ⟨rfl, rfl⟩) hG hs.isIn he rfl rfl) rfl (aH (bH rfl (fun hc0 => ?_) (fun hc0 => ?_))))))))))))))))
 refine dP (dM rfl rfl (dN rfl rfl (dN rfl rfl (aH (aV ⟨_, fX rfl rfl, ?_⟩)))))
 subst hc0
 replace hs := SlX.close (L := [_]) hX (hs.drop hb5)
 obtain ⟨V', hle, hsv, hs⟩ := hs.give
 exact ⟨V', _, _, _, .ok, acc, m', rfl, hs, heq.symm, hp, hwf', rfl, hsv.oneCell, fun _ => ⟨xs, hsv, hrows⟩⟩
 refine aW (aF (dP (dM rfl rfl (lp (bB he rfl) rfl (aH (bH rfl (fun hc1 => ?_) (fun hc1 => ?_)))))))
 refine dP (dM rfl rfl (dN rfl rfl (dN rfl rfl (aH (aV ⟨_, fX rfl rfl, ?_⟩)))))
 have : fQ l fuel m [] = (k, [], m') := by
  rw [← heq]
  cases k <;> first | rfl | exact absurd rfl hc1 | exact absurd rfl hc0
 replace hs := (SlX.close (L := [_]) hX (hs.drop hb5)).st
 exact ⟨V, _, _, _, k, [], m', rfl, hs, this, hp, hwf', he, rfl, fun h => absurd h hc1⟩
 have hk : k = .ok := by simpa using hc1
 subst hk
 obtain ⟨n1, n2, n3, n4⟩ := askM_nxt hwf hpm
 obtain ⟨a, rfl, hRQ⟩ := hq rfl
 refine aW (aB (dM rfl rfl (lp (aO rfl (aP k_90 (hs.g 0 rfl) hql)) rfl (l_app1 (cl := qcs) el_51 (SlX.close (L := [_, _]) hX hs) (fun _ => rfl) rfl rfl hql hqf (by omega) (by omega) (by omega) rfl rfl (fun b22 sv' w hs => ?_)))))
 replace hs := hs.drop hb5
 skip
 refine dN rfl rfl (aH ?_)
 have hs' : Sl 90 258 ⟨w0, V, V⟩ w [(bp, .cells cs'.toArray E (0, 0))] sv' (acc ++ [a]).length (xs ++ qcs) := by rw [List.length_append]; exact hs
 exact ⟨(m', f, _, acc ++ [a], _, sv'), aL rfl (aL rfl (bG _)), ⟨hs', Rows.snoc hrows hRQ hql, hp, hwf', heq, by have := hf2 n1; simp only; omega, fun _ => by have := hf2 n1; simp only; omega, by simp; omega⟩, by simp only; omega⟩
theorem c_oneAnswer (hG : Gl A V) (hV : V.In w0) (hb : RB V mv l) (hown : w0.heap[bp]? = some (.cells cs.toArray E (0, 0))) (hvn : V bp = none) (hp : PR l mv m cs) (hwf : WF l m) (h2l : l.length ≤ 4294967296) :
  eC Tryz.prog 74 #[.pointer (some ⟨bp, 0, none⟩)] w0 fun v w' => ∃ (V' : Vw) (cs' rcs : List Value) (e : Value) (k : EK) (ro : Option fY) (m' : PM), v = .tuple #[.agg rcs.toArray, e] ∧
   St ⟨w0, V, V'⟩ w' [(bp, .cells cs'.toArray E (0, 0))] ∧ recordM l m 2 = (k, ro, m') ∧ PR l mv m' cs' ∧ ErrV A e k ∧ rcs.length = 261 ∧ Flat rcs ∧ (k = .ok → ∃ x, ro = some x ∧ RRes V' x rcs) := by
 have hs := St.start1 hV hown (bU _ _) hvn
 refine aT [_] Tryz.func74 Tryz.ntmps74 Tryz.results74 rfl rfl (dP (aJ (aX hs z_116 rfl (fun b2 w hb2 he2 hs => dN rfl rfl (aH (dP (dM rfl rfl (aZ ok_158 rfl rfl (c_resource hG hs.isIn hb (hs.g 1 rfl) (hs.off (k := 1) rfl) hp hwf h2l 2 rfl (by decide) (by decide)) rfl (fun v5 w HF => ?_)))))))))
 obtain ⟨V', cs', rcs, e, k, ro, m', rfl, hc, hrec, hp, he, hrl, hrf, hr⟩ := HF
 replace hs := hs.frame1 (k := 1) rfl rfl hc
 refine dO rfl rfl rfl (dO rfl rfl rfl (aJ (dR 0 hs k_116 rfl rfl rfl hrl (by simp) hrf rfl (fun w hs => dN rfl rfl (aH (aV ⟨_, fX ⟨_, rfl, aP k_116 (hs.g 0 rfl) hrl⟩ rfl, ?_⟩))))))
 exact ⟨V', _, _, _, k, ro, m', rfl, hs.drop hb2, hrec, hp, he, hrl, hrf, hr⟩
set_option maxHeartbeats 1000000 in
theorem c_allAnswers (hG : Gl A V) (hV : V.In w0) (hb : RB V mv l) (hown : w0.heap[bp]? = some (.cells cs.toArray E (0, 0))) (hvn : V bp = none) (hp : PR l mv m cs) (hwf : WF l m) (h2l : l.length ≤ 4294967296) :
  eC Tryz.prog 43 #[.pointer (some ⟨bp, 0, none⟩)] w0 fun v w' => ∃ (V' : Vw) (cs' : List Value) (qv e : Value) (k : EK) (rl : List fY) (m' : PM), v = .tuple #[qv, e] ∧ St ⟨w0, V, V'⟩ w' [(bp, .cells cs'.toArray E (0, 0))] ∧
   eR l 2 fuel m [] = (k, rl, m') ∧ PR l mv m' cs' ∧ WF l m' ∧ ErrV A e k ∧ qv.oneCell' = true ∧ (k = .ok → RRess V' qv rl) := by
 have hs := St.start1 hV hown (bU _ _) hvn
 have hp' := hp
 obtain ⟨m0, x1, x2, x3, x4, x5, x6, rfl, ⟨hm0, hx4, hx5, hx6⟩, hx⟩ := hp'
 refine aT [_] Tryz.func43 Tryz.ntmps43 Tryz.results43 rfl rfl (dP (dN rfl rfl (dN rfl rfl (aH (dP (dM rfl rfl (lp (aN rfl) rfl (lp (aR fo_100_1 rfl) rfl (lp (bD fo_97_3 rfl) rfl (lp (aO rfl (aQ eS (hs.g 0 rfl) rfl)) rfl (lp (bY Tryz.underlying22 Tryz.underlying3 rfl (fV (c := x4) rfl (by omega))) rfl (dN rfl rfl (aH ?_)))))))))))))
 refine dG (fun ρ w => ∃ nn : Nat, nn ≤ 20 ∧ Sub (eH (eH emp 4 (.int .i64 nn)) 0 (.pointer (some ⟨bp, 0, none⟩))) ρ ∧ St ⟨w0, V, V⟩ w [(bp, .cells (parC m0 x1 x2 x3 x4 x5 x6 m).toArray E (0, 0))]) ?_ ?_
 refine dP (dM rfl rfl (lp (cQ rfl rfl) rfl (aH (bH rfl (fun hc0 => ?_) (fun hc0 => ?_)))))
 refine aB (dN rfl rfl (aH ?_))
 exact ⟨20, by decide, aL rfl (aL rfl (bG _)), hs⟩
 refine aW ?_
 exact ⟨x4, by omega, aL rfl (aL rfl (bG _)), hs⟩
 clear hs
 rintro ρ w ⟨nn, hnn, hsub, hs⟩
 refine EW.weaken hsub (dP (dM rfl rfl (aJ (o_make (l := 0) (c := nn) el_52 hs rfl rfl rfl rfl (by omega) (by omega) (by omega) rfl (fun b17 w hb17 he17 hs => ?_)))))
 have hsl : Sl 116 261 ⟨w0, V, V⟩ w [(bp, .cells (parC m0 x1 x2 x3 x4 x5 x6 m).toArray E (0, 0))] (.slice (some ⟨b17, 0, none⟩) 0 nn) 0 [] := ⟨rfl, .inr ⟨b17, nn, _, rfl, by rw [List.nil_append]; exact made_len _ _, by omega, by unfold maxLen; omega, hb17, hs⟩⟩
 refine dN rfl rfl (aH (bQ (dC (fun g : PM × Nat × List Value × List fY × List Value × Value × Vw => eH (eH emp 5 g.2.2.2.2.2.1) 0 (.pointer (some ⟨bp, 0, none⟩))) (fun g w' => Sl 116 261 ⟨w0, V, g.2.2.2.2.2.2⟩ w' [(bp, .cells g.2.2.1.toArray E (0, 0))] g.2.2.2.2.2.1 g.2.2.2.1.length g.2.2.2.2.1 ∧ Rows 261 (RRes g.2.2.2.2.2.2) g.2.2.2.1 g.2.2.2.2.1 ∧ PR l mv g.1 g.2.2.1 ∧ WF l g.1 ∧ eR l 2 g.2.1 g.1 g.2.2.2.1 = eR l 2 fuel m [] ∧ 1 ≤ g.2.1 ∧ (g.1.sec = 2 → count l 2 - g.1.index < g.2.1) ∧ g.2.1 + g.2.2.2.1.length = fuel) (fun g => g.2.1) (m, fuel, _, [], [], .slice (some ⟨b17, 0, none⟩) 0 nn, V) (aL rfl (aL rfl (bG _))) ⟨hsl, rfl, hp, hwf, rfl, (by decide : 1 ≤ fuel), fun _ => by have := cW l 2; show _ < 65537; omega, rfl⟩ ?_)))
 clear hs hsl hp hwf
 rintro ⟨mm, f, cc, acc, xs, sv, Vc⟩ w ⟨hsl, hrows, hp, hwf, heq, hf1, hf2, hf3⟩
 simp only at hsl hrows hp hwf heq hf1 hf2 hf3 ⊢
 have hle := hsl.st.view
 replace hG := hG.mono hle
 replace hb := hb.mono hle
 have hfu : fuel = 65537 := rfl
 obtain ⟨f, rfl⟩ : ∃ f', f = f' + 1 := ⟨f - 1, by omega⟩
 obtain ⟨X, hX, hs⟩ := hsl.open
 refine bQ (dP (dM rfl rfl (aZ ok_74 rfl rfl (c_oneAnswer hG hs.isIn hb (hs.g 0 rfl) (hs.off (k := 0) rfl) hp hwf h2l) rfl (fun v20 w HF => ?_))))
 obtain ⟨V', cs', rcs, e, k, ro, m', rfl, hc, hpm, hp, he, hql, hqf, hq⟩ := HF
 have hle' := hc.view
 replace hs := hs.frame1 (k := 0) rfl rfl hc
 have hwf' := wf_recordM hwf (by decide : 1 ≤ 2) (by decide)
 rw [hpm] at hwf'
 rw [eR, hpm] at heq
 refine dM rfl rfl (dO rfl rfl rfl (dO rfl rfl rfl (aJ (aX hs z_116 rfl (fun b6 w hb6 he6 hs => aJ (dR 0 hs k_116 rfl rfl rfl hql (by simp) hqf rfl (fun w hs => dN rfl rfl (aH (aF (dP (dM rfl rfl (lp (aO rfl (bR k_57 ((hG.mono hle').ld hs.isIn (g := 5) rfl))) rfl (lp (po_err_eq_g (.inr ⟨rfl, rfl⟩) (hG.mono hle') hs.isIn he rfl rfl) rfl (aH (bH rfl (fun hc1 => ?_) (fun hc1 => ?_))))))))))))))))
 refine dP (dM rfl rfl (dN rfl rfl (dN rfl rfl (aH (aV ⟨_, fX rfl rfl, ?_⟩)))))
 subst hc1
 replace hs := SlX.close (L := [_]) hX (hs.drop hb6)
 obtain ⟨V2, hle2, hsv, hs⟩ := hs.give
 exact ⟨V2, _, _, _, .ok, acc, m', rfl, hs, heq.symm, hp, hwf', rfl, hsv.oneCell, fun _ => ⟨xs, hsv, hrows.mono fun _ _ h => h.mono (Vw.le_trans hle' hle2)⟩⟩
 refine aW (aF (dP (dM rfl rfl (lp (bB he rfl) rfl (aH (bH rfl (fun hc2 => ?_) (fun hc2 => ?_)))))))
 refine dP (dM rfl rfl (dN rfl rfl (dN rfl rfl (aH (aV ⟨_, fX rfl rfl, ?_⟩)))))
 have : eR l 2 fuel m [] = (k, [], m') := by
  rw [← heq]
  cases k <;> first | rfl | exact absurd rfl hc2 | exact absurd rfl hc1
 replace hs := (SlX.close (L := [_]) hX (hs.drop hb6)).st
 exact ⟨V', _, _, _, k, [], m', rfl, hs, this, hp, hwf', he, rfl, fun h => absurd h hc2⟩
 have hk : k = .ok := by simpa using hc2
 subst hk
 obtain ⟨n1, n2, n3, n4⟩ := recordM_nxt hwf (by decide) (by decide) hpm
 obtain ⟨a, rfl, hRQ⟩ := hq rfl
 refine aW (aB (dM rfl rfl (lp (aO rfl (aP k_116 (hs.g 0 rfl) hql)) rfl (l_app1 (cl := rcs) el_52 (SlX.close (L := [_, _]) hX hs) (fun _ => rfl) rfl rfl hql hqf (by omega) (by omega) (by omega) rfl rfl (fun b32 sv' w hs => ?_)))))
 replace hs := hs.drop hb6
 skip
 refine dN rfl rfl (aH ?_)
 have hs' : Sl 116 261 ⟨w0, V, V'⟩ w [(bp, .cells cs'.toArray E (0, 0))] sv' (acc ++ [a]).length (xs ++ rcs) := by rw [List.length_append]; exact hs
 exact ⟨(m', f, _, acc ++ [a], _, sv', V'), aL rfl (aL rfl (bG _)), ⟨hs', Rows.snoc (hrows.mono fun _ _ h => h.mono hle') hRQ hql, hp, hwf', heq, by have := hf2 n1; simp only; omega, fun _ => by have := hf2 n1; simp only; omega, by simp; omega⟩, by simp only; omega⟩
theorem c_oneAuthority (hG : Gl A V) (hV : V.In w0) (hb : RB V mv l) (hown : w0.heap[bp]? = some (.cells cs.toArray E (0, 0))) (hvn : V bp = none) (hp : PR l mv m cs) (hwf : WF l m) (h2l : l.length ≤ 4294967296) :
  eC Tryz.prog 79 #[.pointer (some ⟨bp, 0, none⟩)] w0 fun v w' => ∃ (V' : Vw) (cs' rcs : List Value) (e : Value) (k : EK) (ro : Option fY) (m' : PM), v = .tuple #[.agg rcs.toArray, e] ∧
   St ⟨w0, V, V'⟩ w' [(bp, .cells cs'.toArray E (0, 0))] ∧ recordM l m 3 = (k, ro, m') ∧ PR l mv m' cs' ∧ ErrV A e k ∧ rcs.length = 261 ∧ Flat rcs ∧ (k = .ok → ∃ x, ro = some x ∧ RRes V' x rcs) := by
 have hs := St.start1 hV hown (bU _ _) hvn
 refine aT [_] Tryz.func79 Tryz.ntmps79 Tryz.results79 rfl rfl (dP (aJ (aX hs z_116 rfl (fun b2 w hb2 he2 hs => dN rfl rfl (aH (dP (dM rfl rfl (aZ ok_158 rfl rfl (c_resource hG hs.isIn hb (hs.g 1 rfl) (hs.off (k := 1) rfl) hp hwf h2l 3 rfl (by decide) (by decide)) rfl (fun v5 w HF => ?_)))))))))
 obtain ⟨V', cs', rcs, e, k, ro, m', rfl, hc, hrec, hp, he, hrl, hrf, hr⟩ := HF
 replace hs := hs.frame1 (k := 1) rfl rfl hc
 refine dO rfl rfl rfl (dO rfl rfl rfl (aJ (dR 0 hs k_116 rfl rfl rfl hrl (by simp) hrf rfl (fun w hs => dN rfl rfl (aH (aV ⟨_, fX ⟨_, rfl, aP k_116 (hs.g 0 rfl) hrl⟩ rfl, ?_⟩))))))
 exact ⟨V', _, _, _, k, ro, m', rfl, hs.drop hb2, hrec, hp, he, hrl, hrf, hr⟩
set_option maxHeartbeats 1000000 in
theorem c_allAuthorities (hG : Gl A V) (hV : V.In w0) (hb : RB V mv l) (hown : w0.heap[bp]? = some (.cells cs.toArray E (0, 0))) (hvn : V bp = none) (hp : PR l mv m cs) (hwf : WF l m) (h2l : l.length ≤ 4294967296) :
  eC Tryz.prog 44 #[.pointer (some ⟨bp, 0, none⟩)] w0 fun v w' => ∃ (V' : Vw) (cs' : List Value) (qv e : Value) (k : EK) (rl : List fY) (m' : PM), v = .tuple #[qv, e] ∧ St ⟨w0, V, V'⟩ w' [(bp, .cells cs'.toArray E (0, 0))] ∧
   eR l 3 fuel m [] = (k, rl, m') ∧ PR l mv m' cs' ∧ WF l m' ∧ ErrV A e k ∧ qv.oneCell' = true ∧ (k = .ok → RRess V' qv rl) := by
 have hs := St.start1 hV hown (bU _ _) hvn
 have hp' := hp
 obtain ⟨m0, x1, x2, x3, x4, x5, x6, rfl, ⟨hm0, hx4, hx5, hx6⟩, hx⟩ := hp'
 refine aT [_] Tryz.func44 Tryz.ntmps44 Tryz.results44 rfl rfl (dP (dN rfl rfl (dN rfl rfl (aH (dP (dM rfl rfl (lp (aN rfl) rfl (lp (aR fo_100_1 rfl) rfl (lp (bD fo_97_4 rfl) rfl (lp (aO rfl (aQ eS (hs.g 0 rfl) rfl)) rfl (lp (bY Tryz.underlying22 Tryz.underlying3 rfl (fV (c := x5) rfl (by omega))) rfl (dN rfl rfl (aH ?_)))))))))))))
 refine dG (fun ρ w => ∃ nn : Nat, nn ≤ 20 ∧ Sub (eH (eH emp 4 (.int .i64 nn)) 0 (.pointer (some ⟨bp, 0, none⟩))) ρ ∧ St ⟨w0, V, V⟩ w [(bp, .cells (parC m0 x1 x2 x3 x4 x5 x6 m).toArray E (0, 0))]) ?_ ?_
 refine dP (dM rfl rfl (lp (cQ rfl rfl) rfl (aH (bH rfl (fun hc0 => ?_) (fun hc0 => ?_)))))
 refine aB (dN rfl rfl (aH ?_))
 exact ⟨10, by decide, aL rfl (aL rfl (bG _)), hs⟩
 refine aW ?_
 exact ⟨x5, by omega, aL rfl (aL rfl (bG _)), hs⟩
 clear hs
 rintro ρ w ⟨nn, hnn, hsub, hs⟩
 refine EW.weaken hsub (dP (dM rfl rfl (aJ (o_make (l := 0) (c := nn) el_52 hs rfl rfl rfl rfl (by omega) (by omega) (by omega) rfl (fun b17 w hb17 he17 hs => ?_)))))
 have hsl : Sl 116 261 ⟨w0, V, V⟩ w [(bp, .cells (parC m0 x1 x2 x3 x4 x5 x6 m).toArray E (0, 0))] (.slice (some ⟨b17, 0, none⟩) 0 nn) 0 [] := ⟨rfl, .inr ⟨b17, nn, _, rfl, by rw [List.nil_append]; exact made_len _ _, by omega, by unfold maxLen; omega, hb17, hs⟩⟩
 refine dN rfl rfl (aH (bQ (dC (fun g : PM × Nat × List Value × List fY × List Value × Value × Vw => eH (eH emp 5 g.2.2.2.2.2.1) 0 (.pointer (some ⟨bp, 0, none⟩))) (fun g w' => Sl 116 261 ⟨w0, V, g.2.2.2.2.2.2⟩ w' [(bp, .cells g.2.2.1.toArray E (0, 0))] g.2.2.2.2.2.1 g.2.2.2.1.length g.2.2.2.2.1 ∧ Rows 261 (RRes g.2.2.2.2.2.2) g.2.2.2.1 g.2.2.2.2.1 ∧ PR l mv g.1 g.2.2.1 ∧ WF l g.1 ∧ eR l 3 g.2.1 g.1 g.2.2.2.1 = eR l 3 fuel m [] ∧ 1 ≤ g.2.1 ∧ (g.1.sec = 3 → count l 3 - g.1.index < g.2.1) ∧ g.2.1 + g.2.2.2.1.length = fuel) (fun g => g.2.1) (m, fuel, _, [], [], .slice (some ⟨b17, 0, none⟩) 0 nn, V) (aL rfl (aL rfl (bG _))) ⟨hsl, rfl, hp, hwf, rfl, (by decide : 1 ≤ fuel), fun _ => by have := cW l 3; show _ < 65537; omega, rfl⟩ ?_)))
 clear hs hsl hp hwf
 rintro ⟨mm, f, cc, acc, xs, sv, Vc⟩ w ⟨hsl, hrows, hp, hwf, heq, hf1, hf2, hf3⟩
 simp only at hsl hrows hp hwf heq hf1 hf2 hf3 ⊢
 have hle := hsl.st.view
 replace hG := hG.mono hle
 replace hb := hb.mono hle
 have hfu : fuel = 65537 := rfl
 obtain ⟨f, rfl⟩ : ∃ f', f = f' + 1 := ⟨f - 1, by omega⟩
 obtain ⟨X, hX, hs⟩ := hsl.open
 refine bQ (dP (dM rfl rfl (aZ ok_79 rfl rfl (c_oneAuthority hG hs.isIn hb (hs.g 0 rfl) (hs.off (k := 0) rfl) hp hwf h2l) rfl (fun v20 w HF => ?_))))
 obtain ⟨V', cs', rcs, e, k, ro, m', rfl, hc, hpm, hp, he, hql, hqf, hq⟩ := HF
 have hle' := hc.view
 replace hs := hs.frame1 (k := 0) rfl rfl hc
 have hwf' := wf_recordM hwf (by decide : 1 ≤ 3) (by decide)
 rw [hpm] at hwf'
 rw [eR, hpm] at heq
 refine dM rfl rfl (dO rfl rfl rfl (dO rfl rfl rfl (aJ (aX hs z_116 rfl (fun b6 w hb6 he6 hs => aJ (dR 0 hs k_116 rfl rfl rfl hql (by simp) hqf rfl (fun w hs => dN rfl rfl (aH (aF (dP (dM rfl rfl (lp (aO rfl (bR k_57 ((hG.mono hle').ld hs.isIn (g := 5) rfl))) rfl (lp (po_err_eq_g (.inr ⟨rfl, rfl⟩) (hG.mono hle') hs.isIn he rfl rfl) rfl (aH (bH rfl (fun hc1 => ?_) (fun hc1 => ?_))))))))))))))))
 refine dP (dM rfl rfl (dN rfl rfl (dN rfl rfl (aH (aV ⟨_, fX rfl rfl, ?_⟩)))))
 subst hc1
 replace hs := SlX.close (L := [_]) hX (hs.drop hb6)
 obtain ⟨V2, hle2, hsv, hs⟩ := hs.give
 exact ⟨V2, _, _, _, .ok, acc, m', rfl, hs, heq.symm, hp, hwf', rfl, hsv.oneCell, fun _ => ⟨xs, hsv, hrows.mono fun _ _ h => h.mono (Vw.le_trans hle' hle2)⟩⟩
 refine aW (aF (dP (dM rfl rfl (lp (bB he rfl) rfl (aH (bH rfl (fun hc2 => ?_) (fun hc2 => ?_)))))))
 refine dP (dM rfl rfl (dN rfl rfl (dN rfl rfl (aH (aV ⟨_, fX rfl rfl, ?_⟩)))))
 have : eR l 3 fuel m [] = (k, [], m') := by
  rw [← heq]
  cases k <;> first | rfl | exact absurd rfl hc2 | exact absurd rfl hc1
 replace hs := (SlX.close (L := [_]) hX (hs.drop hb6)).st
 exact ⟨V', _, _, _, k, [], m', rfl, hs, this, hp, hwf', he, rfl, fun h => absurd h hc2⟩
 have hk : k = .ok := by simpa using hc2
 subst hk
 obtain ⟨n1, n2, n3, n4⟩ := recordM_nxt hwf (by decide) (by decide) hpm
 obtain ⟨a, rfl, hRQ⟩ := hq rfl
 refine aW (aB (dM rfl rfl (lp (aO rfl (aP k_116 (hs.g 0 rfl) hql)) rfl (l_app1 (cl := rcs) el_52 (SlX.close (L := [_, _]) hX hs) (fun _ => rfl) rfl rfl hql hqf (by omega) (by omega) (by omega) rfl rfl (fun b32 sv' w hs => ?_)))))
 replace hs := hs.drop hb6
 skip
 refine dN rfl rfl (aH ?_)
 have hs' : Sl 116 261 ⟨w0, V, V'⟩ w [(bp, .cells cs'.toArray E (0, 0))] sv' (acc ++ [a]).length (xs ++ rcs) := by rw [List.length_append]; exact hs
 exact ⟨(m', f, _, acc ++ [a], _, sv', V'), aL rfl (aL rfl (bG _)), ⟨hs', Rows.snoc (hrows.mono fun _ _ h => h.mono hle') hRQ hql, hp, hwf', heq, by have := hf2 n1; simp only; omega, fun _ => by have := hf2 n1; simp only; omega, by simp; omega⟩, by simp only; omega⟩
theorem c_oneAdditional (hG : Gl A V) (hV : V.In w0) (hb : RB V mv l) (hown : w0.heap[bp]? = some (.cells cs.toArray E (0, 0))) (hvn : V bp = none) (hp : PR l mv m cs) (hwf : WF l m) (h2l : l.length ≤ 4294967296) :
  eC Tryz.prog 83 #[.pointer (some ⟨bp, 0, none⟩)] w0 fun v w' => ∃ (V' : Vw) (cs' rcs : List Value) (e : Value) (k : EK) (ro : Option fY) (m' : PM), v = .tuple #[.agg rcs.toArray, e] ∧
   St ⟨w0, V, V'⟩ w' [(bp, .cells cs'.toArray E (0, 0))] ∧ recordM l m 4 = (k, ro, m') ∧ PR l mv m' cs' ∧ ErrV A e k ∧ rcs.length = 261 ∧ Flat rcs ∧ (k = .ok → ∃ x, ro = some x ∧ RRes V' x rcs) := by
 have hs := St.start1 hV hown (bU _ _) hvn
 refine aT [_] Tryz.func83 Tryz.ntmps83 Tryz.results83 rfl rfl (dP (aJ (aX hs z_116 rfl (fun b2 w hb2 he2 hs => dN rfl rfl (aH (dP (dM rfl rfl (aZ ok_158 rfl rfl (c_resource hG hs.isIn hb (hs.g 1 rfl) (hs.off (k := 1) rfl) hp hwf h2l 4 rfl (by decide) (by decide)) rfl (fun v5 w HF => ?_)))))))))
 obtain ⟨V', cs', rcs, e, k, ro, m', rfl, hc, hrec, hp, he, hrl, hrf, hr⟩ := HF
 replace hs := hs.frame1 (k := 1) rfl rfl hc
 refine dO rfl rfl rfl (dO rfl rfl rfl (aJ (dR 0 hs k_116 rfl rfl rfl hrl (by simp) hrf rfl (fun w hs => dN rfl rfl (aH (aV ⟨_, fX ⟨_, rfl, aP k_116 (hs.g 0 rfl) hrl⟩ rfl, ?_⟩))))))
 exact ⟨V', _, _, _, k, ro, m', rfl, hs.drop hb2, hrec, hp, he, hrl, hrf, hr⟩
set_option maxHeartbeats 1000000 in
theorem c_allAdditionals (hG : Gl A V) (hV : V.In w0) (hb : RB V mv l) (hown : w0.heap[bp]? = some (.cells cs.toArray E (0, 0))) (hvn : V bp = none) (hp : PR l mv m cs) (hwf : WF l m) (h2l : l.length ≤ 4294967296) :
  eC Tryz.prog 45 #[.pointer (some ⟨bp, 0, none⟩)] w0 fun v w' => ∃ (V' : Vw) (cs' : List Value) (qv e : Value) (k : EK) (rl : List fY) (m' : PM), v = .tuple #[qv, e] ∧ St ⟨w0, V, V'⟩ w' [(bp, .cells cs'.toArray E (0, 0))] ∧
   eR l 4 fuel m [] = (k, rl, m') ∧ PR l mv m' cs' ∧ WF l m' ∧ ErrV A e k ∧ qv.oneCell' = true ∧ (k = .ok → RRess V' qv rl) := by
 have hs := St.start1 hV hown (bU _ _) hvn
 have hp' := hp
 obtain ⟨m0, x1, x2, x3, x4, x5, x6, rfl, ⟨hm0, hx4, hx5, hx6⟩, hx⟩ := hp'
 refine aT [_] Tryz.func45 Tryz.ntmps45 Tryz.results45 rfl rfl (dP (dN rfl rfl (dN rfl rfl (aH (dP (dM rfl rfl (lp (aN rfl) rfl (lp (aR fo_100_1 rfl) rfl (lp (bD fo_97_5 rfl) rfl (lp (aO rfl (aQ eS (hs.g 0 rfl) rfl)) rfl (lp (bY Tryz.underlying22 Tryz.underlying3 rfl (fV (c := x6) rfl (by omega))) rfl (dN rfl rfl (aH ?_)))))))))))))
 refine dG (fun ρ w => ∃ nn : Nat, nn ≤ 20 ∧ Sub (eH (eH emp 4 (.int .i64 nn)) 0 (.pointer (some ⟨bp, 0, none⟩))) ρ ∧ St ⟨w0, V, V⟩ w [(bp, .cells (parC m0 x1 x2 x3 x4 x5 x6 m).toArray E (0, 0))]) ?_ ?_
 refine dP (dM rfl rfl (lp (cQ rfl rfl) rfl (aH (bH rfl (fun hc0 => ?_) (fun hc0 => ?_)))))
 refine aB (dN rfl rfl (aH ?_))
 exact ⟨10, by decide, aL rfl (aL rfl (bG _)), hs⟩
 refine aW ?_
 exact ⟨x6, by omega, aL rfl (aL rfl (bG _)), hs⟩
 clear hs
 rintro ρ w ⟨nn, hnn, hsub, hs⟩
 refine EW.weaken hsub (dP (dM rfl rfl (aJ (o_make (l := 0) (c := nn) el_52 hs rfl rfl rfl rfl (by omega) (by omega) (by omega) rfl (fun b17 w hb17 he17 hs => ?_)))))
 have hsl : Sl 116 261 ⟨w0, V, V⟩ w [(bp, .cells (parC m0 x1 x2 x3 x4 x5 x6 m).toArray E (0, 0))] (.slice (some ⟨b17, 0, none⟩) 0 nn) 0 [] := ⟨rfl, .inr ⟨b17, nn, _, rfl, by rw [List.nil_append]; exact made_len _ _, by omega, by unfold maxLen; omega, hb17, hs⟩⟩
 refine dN rfl rfl (aH (bQ (dC (fun g : PM × Nat × List Value × List fY × List Value × Value × Vw => eH (eH emp 5 g.2.2.2.2.2.1) 0 (.pointer (some ⟨bp, 0, none⟩))) (fun g w' => Sl 116 261 ⟨w0, V, g.2.2.2.2.2.2⟩ w' [(bp, .cells g.2.2.1.toArray E (0, 0))] g.2.2.2.2.2.1 g.2.2.2.1.length g.2.2.2.2.1 ∧ Rows 261 (RRes g.2.2.2.2.2.2) g.2.2.2.1 g.2.2.2.2.1 ∧ PR l mv g.1 g.2.2.1 ∧ WF l g.1 ∧ eR l 4 g.2.1 g.1 g.2.2.2.1 = eR l 4 fuel m [] ∧ 1 ≤ g.2.1 ∧ (g.1.sec = 4 → count l 4 - g.1.index < g.2.1) ∧ g.2.1 + g.2.2.2.1.length = fuel) (fun g => g.2.1) (m, fuel, _, [], [], .slice (some ⟨b17, 0, none⟩) 0 nn, V) (aL rfl (aL rfl (bG _))) ⟨hsl, rfl, hp, hwf, rfl, (by decide : 1 ≤ fuel), fun _ => by have := cW l 4; show _ < 65537; omega, rfl⟩ ?_)))
 clear hs hsl hp hwf
 rintro ⟨mm, f, cc, acc, xs, sv, Vc⟩ w ⟨hsl, hrows, hp, hwf, heq, hf1, hf2, hf3⟩
 simp only at hsl hrows hp hwf heq hf1 hf2 hf3 ⊢
 have hle := hsl.st.view
 replace hG := hG.mono hle
 replace hb := hb.mono hle
 have hfu : fuel = 65537 := rfl
 obtain ⟨f, rfl⟩ : ∃ f', f = f' + 1 := ⟨f - 1, by omega⟩
 obtain ⟨X, hX, hs⟩ := hsl.open
 refine bQ (dP (dM rfl rfl (aZ ok_83 rfl rfl (c_oneAdditional hG hs.isIn hb (hs.g 0 rfl) (hs.off (k := 0) rfl) hp hwf h2l) rfl (fun v20 w HF => ?_))))
 obtain ⟨V', cs', rcs, e, k, ro, m', rfl, hc, hpm, hp, he, hql, hqf, hq⟩ := HF
 have hle' := hc.view
 replace hs := hs.frame1 (k := 0) rfl rfl hc
 have hwf' := wf_recordM hwf (by decide : 1 ≤ 4) (by decide)
 rw [hpm] at hwf'
 rw [eR, hpm] at heq
 refine dM rfl rfl (dO rfl rfl rfl (dO rfl rfl rfl (aJ (aX hs z_116 rfl (fun b6 w hb6 he6 hs => aJ (dR 0 hs k_116 rfl rfl rfl hql (by simp) hqf rfl (fun w hs => dN rfl rfl (aH (aF (dP (dM rfl rfl (lp (aO rfl (bR k_57 ((hG.mono hle').ld hs.isIn (g := 5) rfl))) rfl (lp (po_err_eq_g (.inr ⟨rfl, rfl⟩) (hG.mono hle') hs.isIn he rfl rfl) rfl (aH (bH rfl (fun hc1 => ?_) (fun hc1 => ?_))))))))))))))))
 refine dP (dM rfl rfl (dN rfl rfl (dN rfl rfl (aH (aV ⟨_, fX rfl rfl, ?_⟩)))))
 subst hc1
 replace hs := SlX.close (L := [_]) hX (hs.drop hb6)
 obtain ⟨V2, hle2, hsv, hs⟩ := hs.give
 exact ⟨V2, _, _, _, .ok, acc, m', rfl, hs, heq.symm, hp, hwf', rfl, hsv.oneCell, fun _ => ⟨xs, hsv, hrows.mono fun _ _ h => h.mono (Vw.le_trans hle' hle2)⟩⟩
 refine aW (aF (dP (dM rfl rfl (lp (bB he rfl) rfl (aH (bH rfl (fun hc2 => ?_) (fun hc2 => ?_)))))))
 refine dP (dM rfl rfl (dN rfl rfl (dN rfl rfl (aH (aV ⟨_, fX rfl rfl, ?_⟩)))))
 have : eR l 4 fuel m [] = (k, [], m') := by
  rw [← heq]
  cases k <;> first | rfl | exact absurd rfl hc2 | exact absurd rfl hc1
 replace hs := (SlX.close (L := [_]) hX (hs.drop hb6)).st
 exact ⟨V', _, _, _, k, [], m', rfl, hs, this, hp, hwf', he, rfl, fun h => absurd h hc2⟩
 have hk : k = .ok := by simpa using hc2
 subst hk
 obtain ⟨n1, n2, n3, n4⟩ := recordM_nxt hwf (by decide) (by decide) hpm
 obtain ⟨a, rfl, hRQ⟩ := hq rfl
 refine aW (aB (dM rfl rfl (lp (aO rfl (aP k_116 (hs.g 0 rfl) hql)) rfl (l_app1 (cl := rcs) el_52 (SlX.close (L := [_, _]) hX hs) (fun _ => rfl) rfl rfl hql hqf (by omega) (by omega) (by omega) rfl rfl (fun b32 sv' w hs => ?_)))))
 replace hs := hs.drop hb6
 skip
 refine dN rfl rfl (aH ?_)
 have hs' : Sl 116 261 ⟨w0, V, V'⟩ w [(bp, .cells cs'.toArray E (0, 0))] sv' (acc ++ [a]).length (xs ++ rcs) := by rw [List.length_append]; exact hs
 exact ⟨(m', f, _, acc ++ [a], _, sv', V'), aL rfl (aL rfl (bG _)), ⟨hs', Rows.snoc (hrows.mono fun _ _ h => h.mono hle') hRQ hql, hp, hwf', heq, by have := hf2 n1; simp only; omega, fun _ => by have := hf2 n1; simp only; omega, by simp; omega⟩, by simp only; omega⟩
end
end Go.Proofs.YtgpfjlfkaoffeaaGreatDoor
namespace Go.Proofs.YtgpfjlfkaoffeaaGreatDoor
open Go
end Go.Proofs.YtgpfjlfkaoffeaaGreatDoor

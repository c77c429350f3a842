/- The parser: all questions; the sections of records. -/
import Derived.Test.YtgpfjlfkaoffeaaGreatDoorP26
set_option linter.all false
namespace Go.Proofs.YtgpfjlfkaoffeaaGreatDoor
open Go
def RRess (V : Vw) (v : Value) (l : List PRec) : Prop := ∃ xs, SlV V 261 v l.length xs ∧ Rows 261 (RRes V) l xs
theorem recordM_nxt {l : List UInt8} {m m' : PM} {s : Nat} {r : Option PRec} (hwf : WF l m) (h1 : 1 ≤ s) (h2 : s ≤ 4) (h : recordM l m s = (.ok, r, m')) : Nxt l s m m' := by
 obtain ⟨k, ro, m1, hb⟩ : ∃ k ro m1, beginM l m s = (k, ro, m1) := ⟨_, _, _, rfl⟩
 by_cases hk : k = .ok
 subst hk
 obtain ⟨x, o, m2, hadv, hhd, rfl, hm'⟩ := beginM_ok hb
 obtain ⟨e1, e2, e3, e4, e5⟩ := advance_lt (wf_m1 hwf) h1 h2 hadv
 obtain ⟨f1, _, _⟩ := advance_ok hadv
 rw [m1Of_sec] at f1
 have hix : (m1Of m).index = m.index := by unfold m1Of; split <;> rfl
 cases hbd : body l m1.at_ (kindOfType x.type) x.length with
 | none => rw [recordM_none hb hbd] at h; cases h
 | some y =>
  rw [recordM_some hb hbd] at h
  cases h
  refine ⟨f1, by rw [hm']; exact e1, ?_, by rw [← hix, ← e4]; exact e2⟩
  show m1.index + 1 = m.index + 1
  rw [hm', ← hix, ← e4]
 rw [recordM_bad hb hk] at h; cases h; exact absurd rfl hk
section
variable {l : List UInt8} {m m' m1 : PM} {k : EK} {s : Nat}
theorem passM_valid (hv : m.valid = true) (hs : m.sec = s) (hf : m.at_ + m.hlen ≤ l.length) : passM l m s = (.ok, { m with at_ := m.at_ + m.hlen, valid := false, index := m.index + 1 }) := by
 unfold passM; rw [if_pos ⟨hv, hs⟩, if_pos hf]
theorem passM_short (hv : m.valid = true) (hs : m.sec = s) (hf : l.length < m.at_ + m.hlen) : passM l m s = (.other, m) := by
 unfold passM; rw [if_pos ⟨hv, hs⟩, if_neg (by omega)]
theorem passM_bad (hn : ¬ (m.valid = true ∧ m.sec = s)) (h : advance l m s = (k, m1)) (hk : k ≠ .ok) : passM l m s = (k, m1) := by
 unfold passM; rw [if_neg hn, h]; cases k <;> first | rfl | exact absurd rfl hk
theorem passM_none (hn : ¬ (m.valid = true ∧ m.sec = s)) (h : advance l m s = (.ok, m1)) (hh : skipRec l m1.at_ = none) : passM l m s = (.other, m1) := by
 unfold passM; rw [if_neg hn, h]; simp only [hh]
theorem passM_some {e : Nat} (hn : ¬ (m.valid = true ∧ m.sec = s)) (h : advance l m s = (.ok, m1)) (hh : skipRec l m1.at_ = some e) : passM l m s = (.ok, { m1 with at_ := e, index := m1.index + 1 }) := by
 unfold passM; rw [if_neg hn, h]; simp only [hh]
theorem passM_nxt (hwf : WF l m) (h1 : 1 ≤ s) (h2 : s ≤ 4) (h : passM l m s = (.ok, m')) : Nxt l s m m' := by
 by_cases hn : m.valid = true ∧ m.sec = s
 by_cases hf : m.at_ + m.hlen ≤ l.length
 rw [passM_valid hn.1 hn.2 hf] at h
 cases h
 have := (hwf.idxV hn.1).1
 rw [hn.2] at this
 exact ⟨hn.2, hn.2, rfl, this⟩
 rw [passM_short hn.1 hn.2 (by omega)] at h; cases h
 obtain ⟨k, m1, hadv⟩ : ∃ k m1, advance l m s = (k, m1) := ⟨_, _, rfl⟩
 by_cases hk : k = .ok
 subst hk
 obtain ⟨e1, e2, e3, e4, e5⟩ := advance_lt hwf h1 h2 hadv
 obtain ⟨f1, _, _⟩ := advance_ok hadv
 cases hh : skipRec l m1.at_ with
 | none => rw [passM_none hn hadv hh] at h; cases h
 | some e => rw [passM_some hn hadv hh] at h; cases h; exact ⟨f1, e1, by rw [← e4], by rw [← e4]; exact e2⟩
 rw [passM_bad hn hadv hk] at h; cases h; exact absurd rfl hk
end
section
variable {A : Nat → Addr} {V : Vw} {w0 : World} {l : List UInt8} {mv : Value} {bp : Nat} {E : TypeId} {m : PM} {cs : List Value}
set_option maxHeartbeats 1000000 in
theorem c_allQuestions (hG : Gl A V) (hV : V.In w0) (hb : RB V mv l) (hown : w0.heap[bp]? = some (.cells cs.toArray E (0, 0))) (hvn : V bp = none) (hp : PR l mv m cs) (hwf : WF l m) (h2l : l.length ≤ 4294967296) :
  CallsV Tryz.prog 42 #[.pointer (some ⟨bp, 0, none⟩)] w0 fun v w' => ∃ (V' : Vw) (cs' : List Value) (qv e : Value) (k : EK) (al : List PAsk) (m' : PM), v = .tuple #[qv, e] ∧ St ⟨w0, V, V'⟩ w' [(bp, .cells cs'.toArray E (0, 0))] ∧
   allAsks l fuel m [] = (k, al, m') ∧ PR l mv m' cs' ∧ WF l m' ∧ ErrV A e k ∧ qv.oneCell' = true ∧ (k = .ok → RQs V' qv al) := by
 have hs := St.start1 hV hown (bU _ _) hvn
 have hzl : (rep 256 (Value.int .u8 0) ++ [Value.int .u16 0, Value.int .u16 0]).length = 258 := by simp
 refine aT [_] Tryz.func42 Tryz.ntmps42 Tryz.results42 rfl rfl (dP (dN rfl rfl (dN rfl rfl (aH (dP (aJ (o_bslice0 es_51 hs rfl (fun b7 w hb7 he7 hs => ?_))))))))
 have hsl : Sl 90 258 ⟨w0, V, V⟩ w [(bp, .cells cs.toArray E (0, 0))] (.slice (some ⟨b7, 0, none⟩) 0 0) 0 [] := ⟨rfl, .inr ⟨b7, 0, [], rfl, rfl, by omega, by decide, hb7, hs⟩⟩
 refine dN rfl rfl (aH (bQ (dC (fun g : PM × Nat × List Value × List PAsk × List Value × Value => upd (upd emp 4 g.2.2.2.2.2) 0 (.pointer (some ⟨bp, 0, none⟩))) (fun g w' => Sl 90 258 ⟨w0, V, V⟩ w' [(bp, .cells g.2.2.1.toArray E (0, 0))] g.2.2.2.2.2 g.2.2.2.1.length g.2.2.2.2.1 ∧ Rows 258 RQ g.2.2.2.1 g.2.2.2.2.1 ∧ PR l mv g.1 g.2.2.1 ∧ WF l g.1 ∧ allAsks l g.2.1 g.1 g.2.2.2.1 = allAsks l fuel m [] ∧ 1 ≤ g.2.1 ∧ (g.1.sec = 1 → count l 1 - g.1.index < g.2.1) ∧ g.2.1 + g.2.2.2.1.length = fuel) (fun g => g.2.1) (m, fuel, cs, [], [], .slice (some ⟨b7, 0, none⟩) 0 0) (aL rfl (aL rfl (bG _))) ⟨hsl, rfl, hp, hwf, rfl, (by decide : 1 ≤ fuel), fun _ => by have := cW l 1; show _ < 65537; omega, rfl⟩ ?_)))
 clear hs hsl hp hwf
 rintro ⟨mm, f, cc, acc, xs, sv⟩ w ⟨hsl, hrows, hp, hwf, heq, hf1, hf2, hf3⟩
 simp only at hsl hrows hp hwf heq hf1 hf2 hf3 ⊢
 have hfu : fuel = 65537 := rfl
 obtain ⟨f, rfl⟩ : ∃ f', f = f' + 1 := ⟨f - 1, by omega⟩
 obtain ⟨X, hX, hs⟩ := hsl.open
 refine bQ (dP (dM rfl rfl (aZ ok_68 rfl rfl (c_question hG hs.isIn hb (hs.g 0 rfl) (hs.off (k := 0) rfl) hp hwf h2l) rfl (fun v10 w HF => ?_))))
 obtain ⟨cs', qcs, e, k, ao, m', rfl, hc, hpm, hp, he, hql, hqf, hq⟩ := HF
 replace hs := hs.frame1 (k := 0) rfl rfl hc
 have hwf' := wf_askM hwf
 rw [hpm] at hwf'
 rw [allAsks, hpm] at heq
 refine dM rfl rfl (dO rfl rfl rfl (dO rfl rfl rfl (aJ (aX hs z_90 rfl (fun b5 w hb5 he5 hs => aJ (dR 0 hs k_90 rfl rfl rfl hql hzl hqf rfl (fun w hs => dN rfl rfl (aH (aF (dP (dM rfl rfl (lp (aO rfl (bR k_57 (hG.ld hs.isIn (g := 5) rfl))) rfl (lp (po_err_eq_g (.inr ⟨rfl, rfl⟩) hG hs.isIn he rfl rfl) rfl (aH (bH rfl (fun hc0 => ?_) (fun hc0 => ?_))))))))))))))))
 refine dP (dM rfl rfl (dN rfl rfl (dN rfl rfl (aH (aV ⟨_, res2 rfl rfl, ?_⟩)))))
 subst hc0
 replace hs := SlX.close (L := [_]) hX (hs.drop hb5)
 obtain ⟨V', hle, hsv, hs⟩ := hs.give
 exact ⟨V', _, _, _, .ok, acc, m', rfl, hs, heq.symm, hp, hwf', rfl, hsv.oneCell, fun _ => ⟨xs, hsv, hrows⟩⟩
 refine aW (aF (dP (dM rfl rfl (lp (bB he rfl) rfl (aH (bH rfl (fun hc1 => ?_) (fun hc1 => ?_)))))))
 refine dP (dM rfl rfl (dN rfl rfl (dN rfl rfl (aH (aV ⟨_, res2 rfl rfl, ?_⟩)))))
 have : allAsks l fuel m [] = (k, [], m') := by
  rw [← heq]
  cases k <;> first | rfl | exact absurd rfl hc1 | exact absurd rfl hc0
 replace hs := (SlX.close (L := [_]) hX (hs.drop hb5)).st
 exact ⟨V, _, _, _, k, [], m', rfl, hs, this, hp, hwf', he, rfl, fun h => absurd h hc1⟩
 have hk : k = .ok := by simpa using hc1
 subst hk
 obtain ⟨n1, n2, n3, n4⟩ := askM_nxt hwf hpm
 obtain ⟨a, rfl, hRQ⟩ := hq rfl
 refine aW (aB (dM rfl rfl (lp (aO rfl (aP k_90 (hs.g 0 rfl) hql)) rfl (l_app1 (cl := qcs) el_51 (SlX.close (L := [_, _]) hX hs) (fun _ => rfl) rfl rfl hql hqf (by omega) (by omega) (by omega) rfl rfl (fun b22 sv' w hs => ?_)))))
 replace hs := hs.drop hb5
 skip
 refine dN rfl rfl (aH ?_)
 have hs' : Sl 90 258 ⟨w0, V, V⟩ w [(bp, .cells cs'.toArray E (0, 0))] sv' (acc ++ [a]).length (xs ++ qcs) := by rw [List.length_append]; exact hs
 exact ⟨(m', f, _, acc ++ [a], _, sv'), aL rfl (aL rfl (bG _)), ⟨hs', Rows.snoc hrows hRQ hql, hp, hwf', heq, by have := hf2 n1; simp only; omega, fun _ => by have := hf2 n1; simp only; omega, by simp; omega⟩, by simp only; omega⟩
theorem c_pskipResource (hG : Gl A V) (hV : V.In w0) (hb : RB V mv l) (hown : w0.heap[bp]? = some (.cells cs.toArray E (0, 0))) (hvn : V bp = none) (hp : PR l mv m cs) (hwf : WF l m) (h2l : l.length ≤ 4294967296)
  (s : Nat) {sv : Int} (hsv : sv = (s + 1 : Nat)) (h1 : 1 ≤ s) (h2 : s ≤ 4) :
  CallsV Tryz.prog 159 #[.pointer (some ⟨bp, 0, none⟩), .int .u8 sv] w0 fun v w' => ∃ (cs' : List Value) (k : EK) (m' : PM), St ⟨w0, V, V⟩ w' [(bp, .cells cs'.toArray E (0, 0))] ∧ passM l m s = (k, m') ∧ PR l mv m' cs' ∧ ErrV A v k := by
 subst hsv
 have hsI := secI_cases m.sec
 have hp' := hp
 have hat := hwf.at_le
 have hhl := hwf.hl
 obtain ⟨a, cap, rfl, hcap, ha⟩ := hb.form
 obtain ⟨m0, x1, x2, x3, x4, x5, x6, rfl, hm0, hx⟩ := hp'
 have hs := St.start1 hV hown (bU _ _) hvn
 refine aT [_, _] Tryz.func159 Tryz.ntmps159 Tryz.results159 rfl rfl (dP (dN rfl rfl (aH (aF (dG (fun ρ w => Sub (upd (upd (upd emp 19 (.bool (decide (m.valid = true ∧ m.sec = s)))) 1 (.int .u8 (s + 1 : Nat))) 0 (.pointer (some ⟨bp, 0, none⟩))) ρ ∧ St ⟨w0, V, V⟩ w [(bp, .cells (parC m0 x1 x2 x3 x4 x5 x6 m).toArray E (0, 0))]) ?_ ?_)))))
 cases hg : m.valid
 refine aB (dM rfl rfl (lp (aN rfl) rfl (lp (aR fo_100_5 rfl) rfl (lp (aO rfl (aQ k_4 (hs.g 0 rfl) rfl)) rfl (dM rfl rfl (aU rfl rfl hg rfl (aU rfl rfl hg rfl (aU rfl rfl hg rfl (aU rfl rfl hg rfl (aU rfl rfl hg rfl (aU rfl rfl hg rfl (lp (bW rfl hg rfl) rfl (aH ?_)))))))))))))
 have hval : (false : Bool) = decide ((false : Bool) = true ∧ m.sec = s) := by symm; apply decide_eq_false; rintro ⟨h, _⟩; cases h
 exact ⟨aL rfl (aL rfl (aL (congrArg (fun t => some (Value.bool t)) hval) (bG _))), hs⟩
 refine aB (dM rfl rfl (lp (aN rfl) rfl (lp (aR fo_100_5 rfl) rfl (lp (aO rfl (aQ k_4 (hs.g 0 rfl) rfl)) rfl (dM rfl rfl (lg rfl rfl hg (aC rfl) rfl (lg rfl rfl hg (aN rfl) rfl (lg rfl rfl hg (aR fo_100_2 rfl) rfl (lg rfl rfl hg (aO rfl (aQ k_98 (hs.g 0 rfl) rfl)) rfl (lg rfl rfl hg (aC rfl) rfl (lg rfl rfl hg (bI rfl rfl) rfl (lp (bO rfl hg rfl) rfl (aH ?_)))))))))))))
 have hval : decide (((secI m.sec : Nat) : Int) = ((s + 1 : Nat) : Int)) = decide ((true : Bool) = true ∧ m.sec = s) := by apply decide_eq_decide.2; simp only [true_and]; omega
 exact ⟨aL rfl (aL rfl (aL (congrArg (fun t => some (Value.bool t)) hval) (bG _))), hs⟩
 clear hs
 rintro ρ w ⟨hsub, hs⟩
 refine EW.weaken hsub (bH rfl (fun hc0 => ?_) (fun hc0 => ?_))
 obtain ⟨hv, hss⟩ := hc0
 obtain ⟨rfl, rfl, rfl, rfl, rfl, rfl, rfl⟩ := hx (by omega)
 have hix := (hwf.idxV hv).1
 have hcn := cW l m.sec
 refine aF (bV hs [3, 7] mixed (fun w hs => dI 0 rfl (fun w => aC rfl) rfl rfl (dI 1 rfl (fun w => aN rfl) rfl rfl (dI 2 rfl (fun w => aR fo_100_3 rfl) rfl rfl (dJ 3 rfl hs rfl (fun w hs => (aO rfl (aQ cH (hs.g 0 rfl) rfl))) rfl (dI 4 rfl (fun w => aC rfl) rfl rfl (dI 5 rfl (fun w => aN rfl) rfl rfl (dI 6 rfl (fun w => aR fo_100_8 rfl) rfl rfl (dJ 7 rfl hs rfl (fun w hs => (aO rfl (aQ k_22 (hs.g 0 rfl) rfl))) rfl (dI 8 rfl (fun w => (bY Tryz.underlying22 Tryz.underlying3 rfl (i64c (c := m.hlen) rfl (by omega)))) rfl rfl (dI 9 rfl (fun w => (bN rfl rfl (i64c (c := m.at_ + m.hlen) (by omega) (by omega)))) rfl rfl (dI 10 rfl (fun w => aD rfl) rfl rfl (bS (by decide +kernel) ?_)))))))))))))
 refine aF (dP (dM rfl rfl (dM rfl rfl (lp (aN rfl) rfl (lp (aR fo_100_0 rfl) rfl (lp (aO rfl (aQ k_23 (hs.g 0 rfl) rfl)) rfl (lp (bC Tryz.underlying23 rfl) rfl (lp (cQ rfl rfl) rfl (aH (bH rfl (fun hc1 => ?_) (fun hc1 => ?_)))))))))))
 refine dP (lp (aO rfl (bR k_57 (hG.ld hs.isIn (g := 19) rfl))) rfl (dN rfl rfl (aH (aV ⟨_, res1 rfl, ?_⟩))))
 exact ⟨_, .other, m, hs, passM_short hv hss (by omega), PR.mk rfl, errv_g (g := 19) rfl (by decide) (by decide)⟩
 refine aW (dP (dM rfl rfl (dM rfl rfl (lp (aN rfl) rfl (lp (aR fo_100_3 rfl) rfl (aJ (dQ 0 hs cH rfl rfl rfl rfl rfl rfl rfl (fun w hs => aH (dP (dM rfl rfl (lp (aN rfl) rfl (lp (aR fo_100_5 rfl) rfl (aJ (dQ 0 hs k_4 rfl rfl rfl rfl rfl rfl rfl (fun w hs => aH ?_)))))))))))))))
 refine dP (dM rfl rfl (lp (aN rfl) rfl (lp (aR fo_100_4 rfl) rfl (lp (aO rfl (aQ cH (hs.g 0 rfl) rfl)) rfl (lp (bN rfl rfl (i64c (c := m.index + 1) (by omega) (by omega))) rfl (lp (aN rfl) rfl (lp (aR fo_100_4 rfl) rfl (aJ (dQ 0 hs cH rfl rfl rfl rfl rfl rfl rfl (fun w hs => aH (dP (dN rfl rfl (aH (aV ?_))))))))))))))
 refine ⟨_, res1 rfl, ?_⟩
 exact ⟨_, .ok, _, hs, passM_valid hv hss (by omega), PR.mk rfl, rfl⟩
 refine aW (aF (dP (dM rfl rfl (dM rfl rfl (aZ ok_150 rfl rfl (c_checkAdvance hG hs.isIn (hs.g 0 rfl) (hs.off (k := 0) rfl) hp hwf.secs s rfl h1 h2) rfl (fun v54 w HF => ?_))))))
 obtain ⟨cs', hc, hp, he⟩ := HF
 replace hs := hs.frame1 (k := 0) rfl rfl hc
 obtain ⟨k, m1, hadv⟩ : ∃ k m1, advance l m s = (k, m1) := ⟨_, _, rfl⟩
 rw [hadv] at hp he
 simp only at hp he
 refine dN rfl rfl (aH (dP (dM rfl rfl (lp (bB he rfl) rfl (aH (bH rfl (fun hc2 => ?_) (fun hc2 => ?_)))))))
 refine dP (dM rfl rfl (dN rfl rfl (aH (aV ⟨_, res1 rfl, ?_⟩))))
 exact ⟨_, k, m1, hs, passM_bad hc0 hadv hc2, hp, he⟩
 have hk : k = .ok := by simpa using hc2
 subst hk
 obtain ⟨e1, e2, e3, e4, e5⟩ := advance_lt hwf h1 h2 hadv
 have hcn := cW l s
 obtain rfl := hp.get (by omega)
 refine aW (dP (dN rfl rfl (aH (aF (bV hs [4, 8] mixed (fun w hs => dI 0 rfl (fun w => aC rfl) rfl rfl (dI 1 rfl (fun w => aC rfl) rfl rfl (dI 2 rfl (fun w => aN rfl) rfl rfl (dI 3 rfl (fun w => aR fo_100_0 rfl) rfl rfl (dJ 4 rfl hs rfl (fun w hs => (aO rfl (aQ k_23 (hs.g 0 rfl) rfl))) rfl (dI 5 rfl (fun w => aC rfl) rfl rfl (dI 6 rfl (fun w => aN rfl) rfl rfl (dI 7 rfl (fun w => aR fo_100_3 rfl) rfl rfl ?_)))))))))))))
 refine dJ 8 rfl hs rfl (fun w hs => (aO rfl (aQ cH (hs.g 0 rfl) rfl))) rfl (dL 9 rfl (cF (cD rfl rfl ok_192 (c_skipResource hG hs.isIn hb m1.at_ rfl (by omega) (by omega))) rfl (fun v68 w HF => ?_)))
 obtain ⟨hc, o, k, e, rfl, he, hr⟩ := HF
 replace hs := hs.frame hc
 refine ⟨fun h => absurd h (by decide +kernel), dI 10 rfl (fun w => aC rfl) rfl rfl (dI 11 rfl (fun w => aI rfl rfl) rfl rfl (dI 12 rfl (fun w => aI rfl rfl) rfl rfl (dI 13 rfl (fun w => aN rfl) rfl rfl (dI 14 rfl (fun w => aR fo_100_3 rfl) rfl rfl (dL 15 rfl (dQ 0 hs cH rfl rfl rfl rfl rfl rfl rfl (fun w hs => ⟨fun h => absurd h (by decide +kernel), dI 16 rfl (fun w => aD rfl) rfl rfl (bS (by decide +kernel) (aF (dP (dM rfl rfl (lp (bB he rfl) rfl ?_)))))⟩)))))))⟩
 refine aH (bH rfl (fun hc3 => ?_) (fun hc3 => ?_))
 refine aF ?_
 obtain ⟨mm, es, ec, hse1, hse2, hse3⟩ := hG.sec
 obtain ⟨sn, hsn, hlk⟩ := secName hse2 hse3 (s + 1 : Nat)
 refine aB (lp (aO rfl (bR k_336 (Vw.cell_in hs.isIn hse1))) rfl (dM rfl rfl (lp (hlk _ _ _ _ hs.isIn rfl rfl) rfl (lp (po_add_str rfl rfl (Nat.le_trans (Nat.add_le_add_left hsn _) (by decide))) rfl (dM rfl rfl (lp (bL rfl (by (simp only [List.all_cons, List.all_nil, he.oneCell]; rfl)) (bu_141_0_1 _ _)) rfl (aJ (cR hs rfl rfl rfl (fun b81 w hb81 hbe81 hs => ?_)))))))))
 replace hs := hs.drop hb81
 refine lp (cG Tryz.underlying139 (fun _ h => by cases h) rfl) rfl (dN rfl rfl (aH (aV ⟨_, res1 rfl, ?_⟩)))
 have hno : skipRec l m1.at_ = none ∧ o = m1.at_ := by
  rcases hr with ⟨hk, _⟩ | ⟨_, h⟩
  exact absurd hk hc3
  exact h
 obtain ⟨hno, rfl⟩ := hno
 exact ⟨_, .other, m1, hs, passM_none hc0 hadv hno, PR.mk rfl, dA⟩
 have hk : k = .ok := by simpa using hc3
 subst hk
 have hsr : skipRec l m1.at_ = some o := by
  rcases hr with ⟨_, h⟩ | ⟨h, _⟩
  exact h
  cases h
 refine aW (dP (dM rfl rfl (lp (aN rfl) rfl (lp (aR fo_100_4 rfl) rfl (lp (aO rfl (aQ cH (hs.g 0 rfl) rfl)) rfl (lp (bN rfl rfl (i64c (c := m1.index + 1) (by omega) (by omega))) rfl (lp (aN rfl) rfl (lp (aR fo_100_4 rfl) rfl (aJ (dQ 0 hs cH rfl rfl rfl rfl rfl rfl rfl (fun w hs => aH (dP (dN rfl rfl (aH ?_))))))))))))))
 refine aV ⟨_, res1 rfl, ?_⟩
 exact ⟨_, .ok, _, hs, passM_some hc0 hadv hsr, PR.mk rfl, rfl⟩
theorem c_hdrAnswer (hG : Gl A V) (hV : V.In w0) (hb : RB V mv l) (hown : w0.heap[bp]? = some (.cells cs.toArray E (0, 0))) (hvn : V bp = none) (hp : PR l mv m cs) (hwf : WF l m) (h2l : l.length ≤ 4294967296) :
  CallsV Tryz.prog 72 #[.pointer (some ⟨bp, 0, none⟩)] w0 fun v w' => ∃ (cs' hcs : List Value) (e : Value) (k : EK) (ro : Option PRec) (m' : PM), v = .tuple #[.agg hcs.toArray, e] ∧
   St ⟨w0, V, V⟩ w' [(bp, .cells cs'.toArray E (0, 0))] ∧ beginM l m 2 = (k, ro, m') ∧ PR l mv m' cs' ∧ ErrV A e k ∧ hcs.length = 260 ∧ Flat hcs ∧ (k = .ok → ∃ r, ro = some r ∧ hcs = hdrC r ∧ r.name.length ≤ 254) := by
 have hs := St.start1 hV hown (bU _ _) hvn
 refine aT [_] Tryz.func72 Tryz.ntmps72 Tryz.results72 rfl rfl (dP (aJ (aX hs z_112 rfl (fun b2 w hb2 he2 hs => dN rfl rfl (aH (dP (dM rfl rfl (aZ ok_157 rfl rfl (c_resourceHeader hG hs.isIn hb (hs.g 1 rfl) (hs.off (k := 1) rfl) hp hwf h2l 2 rfl (by decide) (by decide)) rfl (fun v5 w HF => ?_)))))))))
 obtain ⟨cs', hcs, e, k, ro, m', rfl, hc, hbeg, hp, he, hr⟩ := HF
 replace hs := hs.frame1 (k := 1) rfl rfl hc
 have hcl : hcs.length = 260 ∧ Flat hcs := by
  rcases hr with ⟨r, _, _, rfl, hn⟩ | ⟨_, rfl⟩
  exact ⟨hdrC_len hn, flat_hdrC _⟩
  exact ⟨hdrC_len (by simp), flat_hdrC _⟩
 refine dO rfl rfl rfl (dO rfl rfl rfl (aJ (dR 0 hs k_112 rfl rfl rfl hcl.1 (by simp) hcl.2 rfl (fun w hs => dN rfl rfl (aH (aV ⟨_, res2 ⟨_, rfl, aP k_112 (hs.g 0 rfl) hcl.1⟩ rfl, ⟨_, _, _, k, ro, m', rfl, hs.drop hb2, hbeg, hp, he, hcl.1, hcl.2, fun h => ?_⟩⟩))))))
 rcases hr with ⟨r, _, h1, h2, h3⟩ | ⟨h1, _⟩
 exact ⟨r, h1, h2, h3⟩
 exact absurd h h1
theorem c_oneAnswer (hG : Gl A V) (hV : V.In w0) (hb : RB V mv l) (hown : w0.heap[bp]? = some (.cells cs.toArray E (0, 0))) (hvn : V bp = none) (hp : PR l mv m cs) (hwf : WF l m) (h2l : l.length ≤ 4294967296) :
  CallsV Tryz.prog 74 #[.pointer (some ⟨bp, 0, none⟩)] w0 fun v w' => ∃ (V' : Vw) (cs' rcs : List Value) (e : Value) (k : EK) (ro : Option PRec) (m' : PM), v = .tuple #[.agg rcs.toArray, e] ∧
   St ⟨w0, V, V'⟩ w' [(bp, .cells cs'.toArray E (0, 0))] ∧ recordM l m 2 = (k, ro, m') ∧ PR l mv m' cs' ∧ ErrV A e k ∧ rcs.length = 261 ∧ Flat rcs ∧ (k = .ok → ∃ x, ro = some x ∧ RRes V' x rcs) := by
 have hs := St.start1 hV hown (bU _ _) hvn
 refine aT [_] Tryz.func74 Tryz.ntmps74 Tryz.results74 rfl rfl (dP (aJ (aX hs z_116 rfl (fun b2 w hb2 he2 hs => dN rfl rfl (aH (dP (dM rfl rfl (aZ ok_158 rfl rfl (c_resource hG hs.isIn hb (hs.g 1 rfl) (hs.off (k := 1) rfl) hp hwf h2l 2 rfl (by decide) (by decide)) rfl (fun v5 w HF => ?_)))))))))
 obtain ⟨V', cs', rcs, e, k, ro, m', rfl, hc, hrec, hp, he, hrl, hrf, hr⟩ := HF
 replace hs := hs.frame1 (k := 1) rfl rfl hc
 refine dO rfl rfl rfl (dO rfl rfl rfl (aJ (dR 0 hs k_116 rfl rfl rfl hrl (by simp) hrf rfl (fun w hs => dN rfl rfl (aH (aV ⟨_, res2 ⟨_, rfl, aP k_116 (hs.g 0 rfl) hrl⟩ rfl, ?_⟩))))))
 exact ⟨V', _, _, _, k, ro, m', rfl, hs.drop hb2, hrec, hp, he, hrl, hrf, hr⟩
theorem c_skipAnswer (hG : Gl A V) (hV : V.In w0) (hb : RB V mv l) (hown : w0.heap[bp]? = some (.cells cs.toArray E (0, 0))) (hvn : V bp = none) (hp : PR l mv m cs) (hwf : WF l m) (h2l : l.length ≤ 4294967296) :
  CallsV Tryz.prog 76 #[.pointer (some ⟨bp, 0, none⟩)] w0 fun v w' => ∃ (cs' : List Value) (k : EK) (m' : PM), St ⟨w0, V, V⟩ w' [(bp, .cells cs'.toArray E (0, 0))] ∧ passM l m 2 = (k, m') ∧ PR l mv m' cs' ∧ ErrV A v k := by
 have hs := St.start1 hV hown (bU _ _) hvn
 refine aT [_] Tryz.func76 Tryz.ntmps76 Tryz.results76 rfl rfl (dP (dN rfl rfl (aH (dP (dM rfl rfl (aZ ok_159 rfl rfl (c_pskipResource hG hs.isIn hb (hs.g 0 rfl) (hs.off (k := 0) rfl) hp hwf h2l 2 rfl (by decide) (by decide)) rfl (fun v4 w HF => ?_)))))))
 obtain ⟨cs', k, m', hc, hpm, hp, he⟩ := HF
 replace hs := hs.frame1 (k := 0) rfl rfl hc
 refine dN rfl rfl (aH (aV ⟨_, res1 rfl, ?_⟩))
 exact ⟨_, k, m', hs, hpm, hp, he⟩
theorem c_skipAllAnswers (hG : Gl A V) (hV : V.In w0) (hb : RB V mv l) (hown : w0.heap[bp]? = some (.cells cs.toArray E (0, 0))) (hvn : V bp = none) (hp : PR l mv m cs) (hwf : WF l m) (h2l : l.length ≤ 4294967296) :
  CallsV Tryz.prog 77 #[.pointer (some ⟨bp, 0, none⟩)] w0 fun v w' => ∃ (cs' : List Value) (k : EK) (m' : PM), St ⟨w0, V, V⟩ w' [(bp, .cells cs'.toArray E (0, 0))] ∧ allPass l 2 fuel m = (k, m') ∧ PR l mv m' cs' ∧ WF l m' ∧ ErrV A v k := by
 have hs := St.start1 hV hown (bU _ _) hvn
 refine aT [_] Tryz.func77 Tryz.ntmps77 Tryz.results77 rfl rfl (dP (dN rfl rfl (aH (bQ (dC (fun _ : PM × Nat × List Value => upd emp 0 (.pointer (some ⟨bp, 0, none⟩))) (fun g w' => St ⟨w0, V, V⟩ w' [(bp, .cells g.2.2.toArray E (0, 0))] ∧ PR l mv g.1 g.2.2 ∧ WF l g.1 ∧ allPass l 2 g.2.1 g.1 = allPass l 2 fuel m ∧ 1 ≤ g.2.1 ∧ (g.1.sec = 2 → count l 2 - g.1.index < g.2.1)) (fun g => g.2.1) (m, fuel, cs) (aL rfl (bG _)) ⟨hs, hp, hwf, rfl, (by decide : 1 ≤ fuel), fun _ => by have := cW l 2; show _ < 65537; omega⟩ ?_)))))
 clear hs hp hwf
 rintro ⟨mm, f, cc⟩ w ⟨hs, hp, hwf, heq, hf1, hf2⟩
 simp only at hs hp hwf heq hf1 hf2 ⊢
 obtain ⟨f, rfl⟩ : ∃ f', f = f' + 1 := ⟨f - 1, by omega⟩
 refine bQ (dP (dM rfl rfl (aZ ok_76 rfl rfl (c_skipAnswer hG hs.isIn hb (hs.g 0 rfl) (hs.off (k := 0) rfl) hp hwf h2l) rfl (fun v5 w HF => ?_))))
 obtain ⟨cs', k, m', hc, hpm, hp, he⟩ := HF
 replace hs := hs.frame1 (k := 0) rfl rfl hc
 have hwf' := wf_passM hwf (by decide : 1 ≤ 2) (by decide)
 rw [hpm] at hwf'
 rw [allPass, hpm] at heq
 refine dN rfl rfl (aH (dP (dM rfl rfl (lp (aO rfl (bR k_57 (hG.ld hs.isIn (g := 5) rfl))) rfl (lp (po_err_eq_g (.inr ⟨rfl, rfl⟩) hG hs.isIn he rfl rfl) rfl (aH (bH rfl (fun hc0 => ?_) (fun hc0 => ?_))))))))
 refine dP (dN rfl rfl (aH (aV ⟨_, res1 rfl, ?_⟩)))
 subst hc0
 exact ⟨_, .ok, m', hs, heq.symm, hp, hwf', rfl⟩
 refine dP (dM rfl rfl (lp (bB he rfl) rfl (aH (bH rfl (fun hc1 => ?_) (fun hc1 => ?_)))))
 refine dP (dM rfl rfl (dN rfl rfl (aH (aV ⟨_, res1 rfl, ?_⟩))))
 have : allPass l 2 fuel m = (k, m') := by
  rw [← heq]
  cases k <;> first | rfl | exact absurd rfl hc1 | exact absurd rfl hc0
 exact ⟨_, k, m', hs, this, hp, hwf', he⟩
 have hk : k = .ok := by simpa using hc1
 subst hk
 obtain ⟨n1, n2, n3, n4⟩ := passM_nxt hwf (by decide) (by decide) hpm
 refine aW ?_
 exact ⟨(m', f, _), aL rfl (bG _), ⟨hs, hp, hwf', heq, by have := hf2 n1; simp only; omega, fun _ => by have := hf2 n1; simp only; omega⟩, by simp only; omega⟩
set_option maxHeartbeats 1000000 in
theorem c_allAnswers (hG : Gl A V) (hV : V.In w0) (hb : RB V mv l) (hown : w0.heap[bp]? = some (.cells cs.toArray E (0, 0))) (hvn : V bp = none) (hp : PR l mv m cs) (hwf : WF l m) (h2l : l.length ≤ 4294967296) :
  CallsV Tryz.prog 43 #[.pointer (some ⟨bp, 0, none⟩)] w0 fun v w' => ∃ (V' : Vw) (cs' : List Value) (qv e : Value) (k : EK) (rl : List PRec) (m' : PM), v = .tuple #[qv, e] ∧ St ⟨w0, V, V'⟩ w' [(bp, .cells cs'.toArray E (0, 0))] ∧
   allRecs l 2 fuel m [] = (k, rl, m') ∧ PR l mv m' cs' ∧ WF l m' ∧ ErrV A e k ∧ qv.oneCell' = true ∧ (k = .ok → RRess V' qv rl) := by
 have hs := St.start1 hV hown (bU _ _) hvn
 have hp' := hp
 obtain ⟨m0, x1, x2, x3, x4, x5, x6, rfl, ⟨hm0, hx4, hx5, hx6⟩, hx⟩ := hp'
 refine aT [_] Tryz.func43 Tryz.ntmps43 Tryz.results43 rfl rfl (dP (dN rfl rfl (dN rfl rfl (aH (dP (dM rfl rfl (lp (aN rfl) rfl (lp (aR fo_100_1 rfl) rfl (lp (bD fo_97_3 rfl) rfl (lp (aO rfl (aQ k_22 (hs.g 0 rfl) rfl)) rfl (lp (bY Tryz.underlying22 Tryz.underlying3 rfl (i64c (c := x4) rfl (by omega))) rfl (dN rfl rfl (aH ?_)))))))))))))
 refine dG (fun ρ w => ∃ nn : Nat, nn ≤ 20 ∧ Sub (upd (upd emp 4 (.int .i64 nn)) 0 (.pointer (some ⟨bp, 0, none⟩))) ρ ∧ St ⟨w0, V, V⟩ w [(bp, .cells (parC m0 x1 x2 x3 x4 x5 x6 m).toArray E (0, 0))]) ?_ ?_
 refine dP (dM rfl rfl (lp (cQ rfl rfl) rfl (aH (bH rfl (fun hc0 => ?_) (fun hc0 => ?_)))))
 refine aB (dN rfl rfl (aH ?_))
 exact ⟨20, by decide, aL rfl (aL rfl (bG _)), hs⟩
 refine aW ?_
 exact ⟨x4, by omega, aL rfl (aL rfl (bG _)), hs⟩
 clear hs
 rintro ρ w ⟨nn, hnn, hsub, hs⟩
 refine EW.weaken hsub (dP (dM rfl rfl (aJ (o_make (l := 0) (c := nn) el_52 hs rfl rfl rfl rfl (by omega) (by omega) (by omega) rfl (fun b17 w hb17 he17 hs => ?_)))))
 have hsl : Sl 116 261 ⟨w0, V, V⟩ w [(bp, .cells (parC m0 x1 x2 x3 x4 x5 x6 m).toArray E (0, 0))] (.slice (some ⟨b17, 0, none⟩) 0 nn) 0 [] := ⟨rfl, .inr ⟨b17, nn, _, rfl, by rw [List.nil_append]; exact made_len _ _, by omega, by unfold maxLen; omega, hb17, hs⟩⟩
 refine dN rfl rfl (aH (bQ (dC (fun g : PM × Nat × List Value × List PRec × List Value × Value × Vw => upd (upd emp 5 g.2.2.2.2.2.1) 0 (.pointer (some ⟨bp, 0, none⟩))) (fun g w' => Sl 116 261 ⟨w0, V, g.2.2.2.2.2.2⟩ w' [(bp, .cells g.2.2.1.toArray E (0, 0))] g.2.2.2.2.2.1 g.2.2.2.1.length g.2.2.2.2.1 ∧ Rows 261 (RRes g.2.2.2.2.2.2) g.2.2.2.1 g.2.2.2.2.1 ∧ PR l mv g.1 g.2.2.1 ∧ WF l g.1 ∧ allRecs l 2 g.2.1 g.1 g.2.2.2.1 = allRecs l 2 fuel m [] ∧ 1 ≤ g.2.1 ∧ (g.1.sec = 2 → count l 2 - g.1.index < g.2.1) ∧ g.2.1 + g.2.2.2.1.length = fuel) (fun g => g.2.1) (m, fuel, _, [], [], .slice (some ⟨b17, 0, none⟩) 0 nn, V) (aL rfl (aL rfl (bG _))) ⟨hsl, rfl, hp, hwf, rfl, (by decide : 1 ≤ fuel), fun _ => by have := cW l 2; show _ < 65537; omega, rfl⟩ ?_)))
 clear hs hsl hp hwf
 rintro ⟨mm, f, cc, acc, xs, sv, Vc⟩ w ⟨hsl, hrows, hp, hwf, heq, hf1, hf2, hf3⟩
 simp only at hsl hrows hp hwf heq hf1 hf2 hf3 ⊢
 have hle := hsl.st.view
 replace hG := hG.mono hle
 replace hb := hb.mono hle
 have hfu : fuel = 65537 := rfl
 obtain ⟨f, rfl⟩ : ∃ f', f = f' + 1 := ⟨f - 1, by omega⟩
 obtain ⟨X, hX, hs⟩ := hsl.open
 refine bQ (dP (dM rfl rfl (aZ ok_74 rfl rfl (c_oneAnswer hG hs.isIn hb (hs.g 0 rfl) (hs.off (k := 0) rfl) hp hwf h2l) rfl (fun v20 w HF => ?_))))
 obtain ⟨V', cs', rcs, e, k, ro, m', rfl, hc, hpm, hp, he, hql, hqf, hq⟩ := HF
 have hle' := hc.view
 replace hs := hs.frame1 (k := 0) rfl rfl hc
 have hwf' := wf_recordM hwf (by decide : 1 ≤ 2) (by decide)
 rw [hpm] at hwf'
 rw [allRecs, hpm] at heq
 refine dM rfl rfl (dO rfl rfl rfl (dO rfl rfl rfl (aJ (aX hs z_116 rfl (fun b6 w hb6 he6 hs => aJ (dR 0 hs k_116 rfl rfl rfl hql (by simp) hqf rfl (fun w hs => dN rfl rfl (aH (aF (dP (dM rfl rfl (lp (aO rfl (bR k_57 ((hG.mono hle').ld hs.isIn (g := 5) rfl))) rfl (lp (po_err_eq_g (.inr ⟨rfl, rfl⟩) (hG.mono hle') hs.isIn he rfl rfl) rfl (aH (bH rfl (fun hc1 => ?_) (fun hc1 => ?_))))))))))))))))
 refine dP (dM rfl rfl (dN rfl rfl (dN rfl rfl (aH (aV ⟨_, res2 rfl rfl, ?_⟩)))))
 subst hc1
 replace hs := SlX.close (L := [_]) hX (hs.drop hb6)
 obtain ⟨V2, hle2, hsv, hs⟩ := hs.give
 exact ⟨V2, _, _, _, .ok, acc, m', rfl, hs, heq.symm, hp, hwf', rfl, hsv.oneCell, fun _ => ⟨xs, hsv, hrows.mono fun _ _ h => h.mono (Vw.le_trans hle' hle2)⟩⟩
 refine aW (aF (dP (dM rfl rfl (lp (bB he rfl) rfl (aH (bH rfl (fun hc2 => ?_) (fun hc2 => ?_)))))))
 refine dP (dM rfl rfl (dN rfl rfl (dN rfl rfl (aH (aV ⟨_, res2 rfl rfl, ?_⟩)))))
 have : allRecs l 2 fuel m [] = (k, [], m') := by
  rw [← heq]
  cases k <;> first | rfl | exact absurd rfl hc2 | exact absurd rfl hc1
 replace hs := (SlX.close (L := [_]) hX (hs.drop hb6)).st
 exact ⟨V', _, _, _, k, [], m', rfl, hs, this, hp, hwf', he, rfl, fun h => absurd h hc2⟩
 have hk : k = .ok := by simpa using hc2
 subst hk
 obtain ⟨n1, n2, n3, n4⟩ := recordM_nxt hwf (by decide) (by decide) hpm
 obtain ⟨a, rfl, hRQ⟩ := hq rfl
 refine aW (aB (dM rfl rfl (lp (aO rfl (aP k_116 (hs.g 0 rfl) hql)) rfl (l_app1 (cl := rcs) el_52 (SlX.close (L := [_, _]) hX hs) (fun _ => rfl) rfl rfl hql hqf (by omega) (by omega) (by omega) rfl rfl (fun b32 sv' w hs => ?_)))))
 replace hs := hs.drop hb6
 skip
 refine dN rfl rfl (aH ?_)
 have hs' : Sl 116 261 ⟨w0, V, V'⟩ w [(bp, .cells cs'.toArray E (0, 0))] sv' (acc ++ [a]).length (xs ++ rcs) := by rw [List.length_append]; exact hs
 exact ⟨(m', f, _, acc ++ [a], _, sv', V'), aL rfl (aL rfl (bG _)), ⟨hs', Rows.snoc (hrows.mono fun _ _ h => h.mono hle') hRQ hql, hp, hwf', heq, by have := hf2 n1; simp only; omega, fun _ => by have := hf2 n1; simp only; omega, by simp; omega⟩, by simp only; omega⟩
theorem c_hdrAuthority (hG : Gl A V) (hV : V.In w0) (hb : RB V mv l) (hown : w0.heap[bp]? = some (.cells cs.toArray E (0, 0))) (hvn : V bp = none) (hp : PR l mv m cs) (hwf : WF l m) (h2l : l.length ≤ 4294967296) :
  CallsV Tryz.prog 78 #[.pointer (some ⟨bp, 0, none⟩)] w0 fun v w' => ∃ (cs' hcs : List Value) (e : Value) (k : EK) (ro : Option PRec) (m' : PM), v = .tuple #[.agg hcs.toArray, e] ∧
   St ⟨w0, V, V⟩ w' [(bp, .cells cs'.toArray E (0, 0))] ∧ beginM l m 3 = (k, ro, m') ∧ PR l mv m' cs' ∧ ErrV A e k ∧ hcs.length = 260 ∧ Flat hcs ∧ (k = .ok → ∃ r, ro = some r ∧ hcs = hdrC r ∧ r.name.length ≤ 254) := by
 have hs := St.start1 hV hown (bU _ _) hvn
 refine aT [_] Tryz.func78 Tryz.ntmps78 Tryz.results78 rfl rfl (dP (aJ (aX hs z_112 rfl (fun b2 w hb2 he2 hs => dN rfl rfl (aH (dP (dM rfl rfl (aZ ok_157 rfl rfl (c_resourceHeader hG hs.isIn hb (hs.g 1 rfl) (hs.off (k := 1) rfl) hp hwf h2l 3 rfl (by decide) (by decide)) rfl (fun v5 w HF => ?_)))))))))
 obtain ⟨cs', hcs, e, k, ro, m', rfl, hc, hbeg, hp, he, hr⟩ := HF
 replace hs := hs.frame1 (k := 1) rfl rfl hc
 have hcl : hcs.length = 260 ∧ Flat hcs := by
  rcases hr with ⟨r, _, _, rfl, hn⟩ | ⟨_, rfl⟩
  exact ⟨hdrC_len hn, flat_hdrC _⟩
  exact ⟨hdrC_len (by simp), flat_hdrC _⟩
 refine dO rfl rfl rfl (dO rfl rfl rfl (aJ (dR 0 hs k_112 rfl rfl rfl hcl.1 (by simp) hcl.2 rfl (fun w hs => dN rfl rfl (aH (aV ⟨_, res2 ⟨_, rfl, aP k_112 (hs.g 0 rfl) hcl.1⟩ rfl, ⟨_, _, _, k, ro, m', rfl, hs.drop hb2, hbeg, hp, he, hcl.1, hcl.2, fun h => ?_⟩⟩))))))
 rcases hr with ⟨r, _, h1, h2, h3⟩ | ⟨h1, _⟩
 exact ⟨r, h1, h2, h3⟩
 exact absurd h h1
theorem c_oneAuthority (hG : Gl A V) (hV : V.In w0) (hb : RB V mv l) (hown : w0.heap[bp]? = some (.cells cs.toArray E (0, 0))) (hvn : V bp = none) (hp : PR l mv m cs) (hwf : WF l m) (h2l : l.length ≤ 4294967296) :
  CallsV Tryz.prog 79 #[.pointer (some ⟨bp, 0, none⟩)] w0 fun v w' => ∃ (V' : Vw) (cs' rcs : List Value) (e : Value) (k : EK) (ro : Option PRec) (m' : PM), v = .tuple #[.agg rcs.toArray, e] ∧
   St ⟨w0, V, V'⟩ w' [(bp, .cells cs'.toArray E (0, 0))] ∧ recordM l m 3 = (k, ro, m') ∧ PR l mv m' cs' ∧ ErrV A e k ∧ rcs.length = 261 ∧ Flat rcs ∧ (k = .ok → ∃ x, ro = some x ∧ RRes V' x rcs) := by
 have hs := St.start1 hV hown (bU _ _) hvn
 refine aT [_] Tryz.func79 Tryz.ntmps79 Tryz.results79 rfl rfl (dP (aJ (aX hs z_116 rfl (fun b2 w hb2 he2 hs => dN rfl rfl (aH (dP (dM rfl rfl (aZ ok_158 rfl rfl (c_resource hG hs.isIn hb (hs.g 1 rfl) (hs.off (k := 1) rfl) hp hwf h2l 3 rfl (by decide) (by decide)) rfl (fun v5 w HF => ?_)))))))))
 obtain ⟨V', cs', rcs, e, k, ro, m', rfl, hc, hrec, hp, he, hrl, hrf, hr⟩ := HF
 replace hs := hs.frame1 (k := 1) rfl rfl hc
 refine dO rfl rfl rfl (dO rfl rfl rfl (aJ (dR 0 hs k_116 rfl rfl rfl hrl (by simp) hrf rfl (fun w hs => dN rfl rfl (aH (aV ⟨_, res2 ⟨_, rfl, aP k_116 (hs.g 0 rfl) hrl⟩ rfl, ?_⟩))))))
 exact ⟨V', _, _, _, k, ro, m', rfl, hs.drop hb2, hrec, hp, he, hrl, hrf, hr⟩
theorem c_skipAuthority (hG : Gl A V) (hV : V.In w0) (hb : RB V mv l) (hown : w0.heap[bp]? = some (.cells cs.toArray E (0, 0))) (hvn : V bp = none) (hp : PR l mv m cs) (hwf : WF l m) (h2l : l.length ≤ 4294967296) :
  CallsV Tryz.prog 80 #[.pointer (some ⟨bp, 0, none⟩)] w0 fun v w' => ∃ (cs' : List Value) (k : EK) (m' : PM), St ⟨w0, V, V⟩ w' [(bp, .cells cs'.toArray E (0, 0))] ∧ passM l m 3 = (k, m') ∧ PR l mv m' cs' ∧ ErrV A v k := by
 have hs := St.start1 hV hown (bU _ _) hvn
 refine aT [_] Tryz.func80 Tryz.ntmps80 Tryz.results80 rfl rfl (dP (dN rfl rfl (aH (dP (dM rfl rfl (aZ ok_159 rfl rfl (c_pskipResource hG hs.isIn hb (hs.g 0 rfl) (hs.off (k := 0) rfl) hp hwf h2l 3 rfl (by decide) (by decide)) rfl (fun v4 w HF => ?_)))))))
 obtain ⟨cs', k, m', hc, hpm, hp, he⟩ := HF
 replace hs := hs.frame1 (k := 0) rfl rfl hc
 refine dN rfl rfl (aH (aV ⟨_, res1 rfl, ?_⟩))
 exact ⟨_, k, m', hs, hpm, hp, he⟩
theorem c_skipAllAuthorities (hG : Gl A V) (hV : V.In w0) (hb : RB V mv l) (hown : w0.heap[bp]? = some (.cells cs.toArray E (0, 0))) (hvn : V bp = none) (hp : PR l mv m cs) (hwf : WF l m) (h2l : l.length ≤ 4294967296) :
  CallsV Tryz.prog 81 #[.pointer (some ⟨bp, 0, none⟩)] w0 fun v w' => ∃ (cs' : List Value) (k : EK) (m' : PM), St ⟨w0, V, V⟩ w' [(bp, .cells cs'.toArray E (0, 0))] ∧ allPass l 3 fuel m = (k, m') ∧ PR l mv m' cs' ∧ WF l m' ∧ ErrV A v k := by
 have hs := St.start1 hV hown (bU _ _) hvn
 refine aT [_] Tryz.func81 Tryz.ntmps81 Tryz.results81 rfl rfl (dP (dN rfl rfl (aH (bQ (dC (fun _ : PM × Nat × List Value => upd emp 0 (.pointer (some ⟨bp, 0, none⟩))) (fun g w' => St ⟨w0, V, V⟩ w' [(bp, .cells g.2.2.toArray E (0, 0))] ∧ PR l mv g.1 g.2.2 ∧ WF l g.1 ∧ allPass l 3 g.2.1 g.1 = allPass l 3 fuel m ∧ 1 ≤ g.2.1 ∧ (g.1.sec = 3 → count l 3 - g.1.index < g.2.1)) (fun g => g.2.1) (m, fuel, cs) (aL rfl (bG _)) ⟨hs, hp, hwf, rfl, (by decide : 1 ≤ fuel), fun _ => by have := cW l 3; show _ < 65537; omega⟩ ?_)))))
 clear hs hp hwf
 rintro ⟨mm, f, cc⟩ w ⟨hs, hp, hwf, heq, hf1, hf2⟩
 simp only at hs hp hwf heq hf1 hf2 ⊢
 obtain ⟨f, rfl⟩ : ∃ f', f = f' + 1 := ⟨f - 1, by omega⟩
 refine bQ (dP (dM rfl rfl (aZ ok_80 rfl rfl (c_skipAuthority hG hs.isIn hb (hs.g 0 rfl) (hs.off (k := 0) rfl) hp hwf h2l) rfl (fun v5 w HF => ?_))))
 obtain ⟨cs', k, m', hc, hpm, hp, he⟩ := HF
 replace hs := hs.frame1 (k := 0) rfl rfl hc
 have hwf' := wf_passM hwf (by decide : 1 ≤ 3) (by decide)
 rw [hpm] at hwf'
 rw [allPass, hpm] at heq
 refine dN rfl rfl (aH (dP (dM rfl rfl (lp (aO rfl (bR k_57 (hG.ld hs.isIn (g := 5) rfl))) rfl (lp (po_err_eq_g (.inr ⟨rfl, rfl⟩) hG hs.isIn he rfl rfl) rfl (aH (bH rfl (fun hc0 => ?_) (fun hc0 => ?_))))))))
 refine dP (dN rfl rfl (aH (aV ⟨_, res1 rfl, ?_⟩)))
 subst hc0
 exact ⟨_, .ok, m', hs, heq.symm, hp, hwf', rfl⟩
 refine dP (dM rfl rfl (lp (bB he rfl) rfl (aH (bH rfl (fun hc1 => ?_) (fun hc1 => ?_)))))
 refine dP (dM rfl rfl (dN rfl rfl (aH (aV ⟨_, res1 rfl, ?_⟩))))
 have : allPass l 3 fuel m = (k, m') := by
  rw [← heq]
  cases k <;> first | rfl | exact absurd rfl hc1 | exact absurd rfl hc0
 exact ⟨_, k, m', hs, this, hp, hwf', he⟩
 have hk : k = .ok := by simpa using hc1
 subst hk
 obtain ⟨n1, n2, n3, n4⟩ := passM_nxt hwf (by decide) (by decide) hpm
 refine aW ?_
 exact ⟨(m', f, _), aL rfl (bG _), ⟨hs, hp, hwf', heq, by have := hf2 n1; simp only; omega, fun _ => by have := hf2 n1; simp only; omega⟩, by simp only; omega⟩
set_option maxHeartbeats 1000000 in
theorem c_allAuthorities (hG : Gl A V) (hV : V.In w0) (hb : RB V mv l) (hown : w0.heap[bp]? = some (.cells cs.toArray E (0, 0))) (hvn : V bp = none) (hp : PR l mv m cs) (hwf : WF l m) (h2l : l.length ≤ 4294967296) :
  CallsV Tryz.prog 44 #[.pointer (some ⟨bp, 0, none⟩)] w0 fun v w' => ∃ (V' : Vw) (cs' : List Value) (qv e : Value) (k : EK) (rl : List PRec) (m' : PM), v = .tuple #[qv, e] ∧ St ⟨w0, V, V'⟩ w' [(bp, .cells cs'.toArray E (0, 0))] ∧
   allRecs l 3 fuel m [] = (k, rl, m') ∧ PR l mv m' cs' ∧ WF l m' ∧ ErrV A e k ∧ qv.oneCell' = true ∧ (k = .ok → RRess V' qv rl) := by
 have hs := St.start1 hV hown (bU _ _) hvn
 have hp' := hp
 obtain ⟨m0, x1, x2, x3, x4, x5, x6, rfl, ⟨hm0, hx4, hx5, hx6⟩, hx⟩ := hp'
 refine aT [_] Tryz.func44 Tryz.ntmps44 Tryz.results44 rfl rfl (dP (dN rfl rfl (dN rfl rfl (aH (dP (dM rfl rfl (lp (aN rfl) rfl (lp (aR fo_100_1 rfl) rfl (lp (bD fo_97_4 rfl) rfl (lp (aO rfl (aQ k_22 (hs.g 0 rfl) rfl)) rfl (lp (bY Tryz.underlying22 Tryz.underlying3 rfl (i64c (c := x5) rfl (by omega))) rfl (dN rfl rfl (aH ?_)))))))))))))
 refine dG (fun ρ w => ∃ nn : Nat, nn ≤ 20 ∧ Sub (upd (upd emp 4 (.int .i64 nn)) 0 (.pointer (some ⟨bp, 0, none⟩))) ρ ∧ St ⟨w0, V, V⟩ w [(bp, .cells (parC m0 x1 x2 x3 x4 x5 x6 m).toArray E (0, 0))]) ?_ ?_
 refine dP (dM rfl rfl (lp (cQ rfl rfl) rfl (aH (bH rfl (fun hc0 => ?_) (fun hc0 => ?_)))))
 refine aB (dN rfl rfl (aH ?_))
 exact ⟨10, by decide, aL rfl (aL rfl (bG _)), hs⟩
 refine aW ?_
 exact ⟨x5, by omega, aL rfl (aL rfl (bG _)), hs⟩
 clear hs
 rintro ρ w ⟨nn, hnn, hsub, hs⟩
 refine EW.weaken hsub (dP (dM rfl rfl (aJ (o_make (l := 0) (c := nn) el_52 hs rfl rfl rfl rfl (by omega) (by omega) (by omega) rfl (fun b17 w hb17 he17 hs => ?_)))))
 have hsl : Sl 116 261 ⟨w0, V, V⟩ w [(bp, .cells (parC m0 x1 x2 x3 x4 x5 x6 m).toArray E (0, 0))] (.slice (some ⟨b17, 0, none⟩) 0 nn) 0 [] := ⟨rfl, .inr ⟨b17, nn, _, rfl, by rw [List.nil_append]; exact made_len _ _, by omega, by unfold maxLen; omega, hb17, hs⟩⟩
 refine dN rfl rfl (aH (bQ (dC (fun g : PM × Nat × List Value × List PRec × List Value × Value × Vw => upd (upd emp 5 g.2.2.2.2.2.1) 0 (.pointer (some ⟨bp, 0, none⟩))) (fun g w' => Sl 116 261 ⟨w0, V, g.2.2.2.2.2.2⟩ w' [(bp, .cells g.2.2.1.toArray E (0, 0))] g.2.2.2.2.2.1 g.2.2.2.1.length g.2.2.2.2.1 ∧ Rows 261 (RRes g.2.2.2.2.2.2) g.2.2.2.1 g.2.2.2.2.1 ∧ PR l mv g.1 g.2.2.1 ∧ WF l g.1 ∧ allRecs l 3 g.2.1 g.1 g.2.2.2.1 = allRecs l 3 fuel m [] ∧ 1 ≤ g.2.1 ∧ (g.1.sec = 3 → count l 3 - g.1.index < g.2.1) ∧ g.2.1 + g.2.2.2.1.length = fuel) (fun g => g.2.1) (m, fuel, _, [], [], .slice (some ⟨b17, 0, none⟩) 0 nn, V) (aL rfl (aL rfl (bG _))) ⟨hsl, rfl, hp, hwf, rfl, (by decide : 1 ≤ fuel), fun _ => by have := cW l 3; show _ < 65537; omega, rfl⟩ ?_)))
 clear hs hsl hp hwf
 rintro ⟨mm, f, cc, acc, xs, sv, Vc⟩ w ⟨hsl, hrows, hp, hwf, heq, hf1, hf2, hf3⟩
 simp only at hsl hrows hp hwf heq hf1 hf2 hf3 ⊢
 have hle := hsl.st.view
 replace hG := hG.mono hle
 replace hb := hb.mono hle
 have hfu : fuel = 65537 := rfl
 obtain ⟨f, rfl⟩ : ∃ f', f = f' + 1 := ⟨f - 1, by omega⟩
 obtain ⟨X, hX, hs⟩ := hsl.open
 refine bQ (dP (dM rfl rfl (aZ ok_79 rfl rfl (c_oneAuthority hG hs.isIn hb (hs.g 0 rfl) (hs.off (k := 0) rfl) hp hwf h2l) rfl (fun v20 w HF => ?_))))
 obtain ⟨V', cs', rcs, e, k, ro, m', rfl, hc, hpm, hp, he, hql, hqf, hq⟩ := HF
 have hle' := hc.view
 replace hs := hs.frame1 (k := 0) rfl rfl hc
 have hwf' := wf_recordM hwf (by decide : 1 ≤ 3) (by decide)
 rw [hpm] at hwf'
 rw [allRecs, hpm] at heq
 refine dM rfl rfl (dO rfl rfl rfl (dO rfl rfl rfl (aJ (aX hs z_116 rfl (fun b6 w hb6 he6 hs => aJ (dR 0 hs k_116 rfl rfl rfl hql (by simp) hqf rfl (fun w hs => dN rfl rfl (aH (aF (dP (dM rfl rfl (lp (aO rfl (bR k_57 ((hG.mono hle').ld hs.isIn (g := 5) rfl))) rfl (lp (po_err_eq_g (.inr ⟨rfl, rfl⟩) (hG.mono hle') hs.isIn he rfl rfl) rfl (aH (bH rfl (fun hc1 => ?_) (fun hc1 => ?_))))))))))))))))
 refine dP (dM rfl rfl (dN rfl rfl (dN rfl rfl (aH (aV ⟨_, res2 rfl rfl, ?_⟩)))))
 subst hc1
 replace hs := SlX.close (L := [_]) hX (hs.drop hb6)
 obtain ⟨V2, hle2, hsv, hs⟩ := hs.give
 exact ⟨V2, _, _, _, .ok, acc, m', rfl, hs, heq.symm, hp, hwf', rfl, hsv.oneCell, fun _ => ⟨xs, hsv, hrows.mono fun _ _ h => h.mono (Vw.le_trans hle' hle2)⟩⟩
 refine aW (aF (dP (dM rfl rfl (lp (bB he rfl) rfl (aH (bH rfl (fun hc2 => ?_) (fun hc2 => ?_)))))))
 refine dP (dM rfl rfl (dN rfl rfl (dN rfl rfl (aH (aV ⟨_, res2 rfl rfl, ?_⟩)))))
 have : allRecs l 3 fuel m [] = (k, [], m') := by
  rw [← heq]
  cases k <;> first | rfl | exact absurd rfl hc2 | exact absurd rfl hc1
 replace hs := (SlX.close (L := [_]) hX (hs.drop hb6)).st
 exact ⟨V', _, _, _, k, [], m', rfl, hs, this, hp, hwf', he, rfl, fun h => absurd h hc2⟩
 have hk : k = .ok := by simpa using hc2
 subst hk
 obtain ⟨n1, n2, n3, n4⟩ := recordM_nxt hwf (by decide) (by decide) hpm
 obtain ⟨a, rfl, hRQ⟩ := hq rfl
 refine aW (aB (dM rfl rfl (lp (aO rfl (aP k_116 (hs.g 0 rfl) hql)) rfl (l_app1 (cl := rcs) el_52 (SlX.close (L := [_, _]) hX hs) (fun _ => rfl) rfl rfl hql hqf (by omega) (by omega) (by omega) rfl rfl (fun b32 sv' w hs => ?_)))))
 replace hs := hs.drop hb6
 skip
 refine dN rfl rfl (aH ?_)
 have hs' : Sl 116 261 ⟨w0, V, V'⟩ w [(bp, .cells cs'.toArray E (0, 0))] sv' (acc ++ [a]).length (xs ++ rcs) := by rw [List.length_append]; exact hs
 exact ⟨(m', f, _, acc ++ [a], _, sv', V'), aL rfl (aL rfl (bG _)), ⟨hs', Rows.snoc (hrows.mono fun _ _ h => h.mono hle') hRQ hql, hp, hwf', heq, by have := hf2 n1; simp only; omega, fun _ => by have := hf2 n1; simp only; omega, by simp; omega⟩, by simp only; omega⟩
theorem c_hdrAdditional (hG : Gl A V) (hV : V.In w0) (hb : RB V mv l) (hown : w0.heap[bp]? = some (.cells cs.toArray E (0, 0))) (hvn : V bp = none) (hp : PR l mv m cs) (hwf : WF l m) (h2l : l.length ≤ 4294967296) :
  CallsV Tryz.prog 82 #[.pointer (some ⟨bp, 0, none⟩)] w0 fun v w' => ∃ (cs' hcs : List Value) (e : Value) (k : EK) (ro : Option PRec) (m' : PM), v = .tuple #[.agg hcs.toArray, e] ∧
   St ⟨w0, V, V⟩ w' [(bp, .cells cs'.toArray E (0, 0))] ∧ beginM l m 4 = (k, ro, m') ∧ PR l mv m' cs' ∧ ErrV A e k ∧ hcs.length = 260 ∧ Flat hcs ∧ (k = .ok → ∃ r, ro = some r ∧ hcs = hdrC r ∧ r.name.length ≤ 254) := by
 have hs := St.start1 hV hown (bU _ _) hvn
 refine aT [_] Tryz.func82 Tryz.ntmps82 Tryz.results82 rfl rfl (dP (aJ (aX hs z_112 rfl (fun b2 w hb2 he2 hs => dN rfl rfl (aH (dP (dM rfl rfl (aZ ok_157 rfl rfl (c_resourceHeader hG hs.isIn hb (hs.g 1 rfl) (hs.off (k := 1) rfl) hp hwf h2l 4 rfl (by decide) (by decide)) rfl (fun v5 w HF => ?_)))))))))
 obtain ⟨cs', hcs, e, k, ro, m', rfl, hc, hbeg, hp, he, hr⟩ := HF
 replace hs := hs.frame1 (k := 1) rfl rfl hc
 have hcl : hcs.length = 260 ∧ Flat hcs := by
  rcases hr with ⟨r, _, _, rfl, hn⟩ | ⟨_, rfl⟩
  exact ⟨hdrC_len hn, flat_hdrC _⟩
  exact ⟨hdrC_len (by simp), flat_hdrC _⟩
 refine dO rfl rfl rfl (dO rfl rfl rfl (aJ (dR 0 hs k_112 rfl rfl rfl hcl.1 (by simp) hcl.2 rfl (fun w hs => dN rfl rfl (aH (aV ⟨_, res2 ⟨_, rfl, aP k_112 (hs.g 0 rfl) hcl.1⟩ rfl, ⟨_, _, _, k, ro, m', rfl, hs.drop hb2, hbeg, hp, he, hcl.1, hcl.2, fun h => ?_⟩⟩))))))
 rcases hr with ⟨r, _, h1, h2, h3⟩ | ⟨h1, _⟩
 exact ⟨r, h1, h2, h3⟩
 exact absurd h h1
theorem c_oneAdditional (hG : Gl A V) (hV : V.In w0) (hb : RB V mv l) (hown : w0.heap[bp]? = some (.cells cs.toArray E (0, 0))) (hvn : V bp = none) (hp : PR l mv m cs) (hwf : WF l m) (h2l : l.length ≤ 4294967296) :
  CallsV Tryz.prog 83 #[.pointer (some ⟨bp, 0, none⟩)] w0 fun v w' => ∃ (V' : Vw) (cs' rcs : List Value) (e : Value) (k : EK) (ro : Option PRec) (m' : PM), v = .tuple #[.agg rcs.toArray, e] ∧
   St ⟨w0, V, V'⟩ w' [(bp, .cells cs'.toArray E (0, 0))] ∧ recordM l m 4 = (k, ro, m') ∧ PR l mv m' cs' ∧ ErrV A e k ∧ rcs.length = 261 ∧ Flat rcs ∧ (k = .ok → ∃ x, ro = some x ∧ RRes V' x rcs) := by
 have hs := St.start1 hV hown (bU _ _) hvn
 refine aT [_] Tryz.func83 Tryz.ntmps83 Tryz.results83 rfl rfl (dP (aJ (aX hs z_116 rfl (fun b2 w hb2 he2 hs => dN rfl rfl (aH (dP (dM rfl rfl (aZ ok_158 rfl rfl (c_resource hG hs.isIn hb (hs.g 1 rfl) (hs.off (k := 1) rfl) hp hwf h2l 4 rfl (by decide) (by decide)) rfl (fun v5 w HF => ?_)))))))))
 obtain ⟨V', cs', rcs, e, k, ro, m', rfl, hc, hrec, hp, he, hrl, hrf, hr⟩ := HF
 replace hs := hs.frame1 (k := 1) rfl rfl hc
 refine dO rfl rfl rfl (dO rfl rfl rfl (aJ (dR 0 hs k_116 rfl rfl rfl hrl (by simp) hrf rfl (fun w hs => dN rfl rfl (aH (aV ⟨_, res2 ⟨_, rfl, aP k_116 (hs.g 0 rfl) hrl⟩ rfl, ?_⟩))))))
 exact ⟨V', _, _, _, k, ro, m', rfl, hs.drop hb2, hrec, hp, he, hrl, hrf, hr⟩
theorem c_skipAdditional (hG : Gl A V) (hV : V.In w0) (hb : RB V mv l) (hown : w0.heap[bp]? = some (.cells cs.toArray E (0, 0))) (hvn : V bp = none) (hp : PR l mv m cs) (hwf : WF l m) (h2l : l.length ≤ 4294967296) :
  CallsV Tryz.prog 84 #[.pointer (some ⟨bp, 0, none⟩)] w0 fun v w' => ∃ (cs' : List Value) (k : EK) (m' : PM), St ⟨w0, V, V⟩ w' [(bp, .cells cs'.toArray E (0, 0))] ∧ passM l m 4 = (k, m') ∧ PR l mv m' cs' ∧ ErrV A v k := by
 have hs := St.start1 hV hown (bU _ _) hvn
 refine aT [_] Tryz.func84 Tryz.ntmps84 Tryz.results84 rfl rfl (dP (dN rfl rfl (aH (dP (dM rfl rfl (aZ ok_159 rfl rfl (c_pskipResource hG hs.isIn hb (hs.g 0 rfl) (hs.off (k := 0) rfl) hp hwf h2l 4 rfl (by decide) (by decide)) rfl (fun v4 w HF => ?_)))))))
 obtain ⟨cs', k, m', hc, hpm, hp, he⟩ := HF
 replace hs := hs.frame1 (k := 0) rfl rfl hc
 refine dN rfl rfl (aH (aV ⟨_, res1 rfl, ?_⟩))
 exact ⟨_, k, m', hs, hpm, hp, he⟩
theorem c_skipAllAdditionals (hG : Gl A V) (hV : V.In w0) (hb : RB V mv l) (hown : w0.heap[bp]? = some (.cells cs.toArray E (0, 0))) (hvn : V bp = none) (hp : PR l mv m cs) (hwf : WF l m) (h2l : l.length ≤ 4294967296) :
  CallsV Tryz.prog 85 #[.pointer (some ⟨bp, 0, none⟩)] w0 fun v w' => ∃ (cs' : List Value) (k : EK) (m' : PM), St ⟨w0, V, V⟩ w' [(bp, .cells cs'.toArray E (0, 0))] ∧ allPass l 4 fuel m = (k, m') ∧ PR l mv m' cs' ∧ WF l m' ∧ ErrV A v k := by
 have hs := St.start1 hV hown (bU _ _) hvn
 refine aT [_] Tryz.func85 Tryz.ntmps85 Tryz.results85 rfl rfl (dP (dN rfl rfl (aH (bQ (dC (fun _ : PM × Nat × List Value => upd emp 0 (.pointer (some ⟨bp, 0, none⟩))) (fun g w' => St ⟨w0, V, V⟩ w' [(bp, .cells g.2.2.toArray E (0, 0))] ∧ PR l mv g.1 g.2.2 ∧ WF l g.1 ∧ allPass l 4 g.2.1 g.1 = allPass l 4 fuel m ∧ 1 ≤ g.2.1 ∧ (g.1.sec = 4 → count l 4 - g.1.index < g.2.1)) (fun g => g.2.1) (m, fuel, cs) (aL rfl (bG _)) ⟨hs, hp, hwf, rfl, (by decide : 1 ≤ fuel), fun _ => by have := cW l 4; show _ < 65537; omega⟩ ?_)))))
 clear hs hp hwf
 rintro ⟨mm, f, cc⟩ w ⟨hs, hp, hwf, heq, hf1, hf2⟩
 simp only at hs hp hwf heq hf1 hf2 ⊢
 obtain ⟨f, rfl⟩ : ∃ f', f = f' + 1 := ⟨f - 1, by omega⟩
 refine bQ (dP (dM rfl rfl (aZ ok_84 rfl rfl (c_skipAdditional hG hs.isIn hb (hs.g 0 rfl) (hs.off (k := 0) rfl) hp hwf h2l) rfl (fun v5 w HF => ?_))))
 obtain ⟨cs', k, m', hc, hpm, hp, he⟩ := HF
 replace hs := hs.frame1 (k := 0) rfl rfl hc
 have hwf' := wf_passM hwf (by decide : 1 ≤ 4) (by decide)
 rw [hpm] at hwf'
 rw [allPass, hpm] at heq
 refine dN rfl rfl (aH (dP (dM rfl rfl (lp (aO rfl (bR k_57 (hG.ld hs.isIn (g := 5) rfl))) rfl (lp (po_err_eq_g (.inr ⟨rfl, rfl⟩) hG hs.isIn he rfl rfl) rfl (aH (bH rfl (fun hc0 => ?_) (fun hc0 => ?_))))))))
 refine dP (dN rfl rfl (aH (aV ⟨_, res1 rfl, ?_⟩)))
 subst hc0
 exact ⟨_, .ok, m', hs, heq.symm, hp, hwf', rfl⟩
 refine dP (dM rfl rfl (lp (bB he rfl) rfl (aH (bH rfl (fun hc1 => ?_) (fun hc1 => ?_)))))
 refine dP (dM rfl rfl (dN rfl rfl (aH (aV ⟨_, res1 rfl, ?_⟩))))
 have : allPass l 4 fuel m = (k, m') := by
  rw [← heq]
  cases k <;> first | rfl | exact absurd rfl hc1 | exact absurd rfl hc0
 exact ⟨_, k, m', hs, this, hp, hwf', he⟩
 have hk : k = .ok := by simpa using hc1
 subst hk
 obtain ⟨n1, n2, n3, n4⟩ := passM_nxt hwf (by decide) (by decide) hpm
 refine aW ?_
 exact ⟨(m', f, _), aL rfl (bG _), ⟨hs, hp, hwf', heq, by have := hf2 n1; simp only; omega, fun _ => by have := hf2 n1; simp only; omega⟩, by simp only; omega⟩
set_option maxHeartbeats 1000000 in
theorem c_allAdditionals (hG : Gl A V) (hV : V.In w0) (hb : RB V mv l) (hown : w0.heap[bp]? = some (.cells cs.toArray E (0, 0))) (hvn : V bp = none) (hp : PR l mv m cs) (hwf : WF l m) (h2l : l.length ≤ 4294967296) :
  CallsV Tryz.prog 45 #[.pointer (some ⟨bp, 0, none⟩)] w0 fun v w' => ∃ (V' : Vw) (cs' : List Value) (qv e : Value) (k : EK) (rl : List PRec) (m' : PM), v = .tuple #[qv, e] ∧ St ⟨w0, V, V'⟩ w' [(bp, .cells cs'.toArray E (0, 0))] ∧
   allRecs l 4 fuel m [] = (k, rl, m') ∧ PR l mv m' cs' ∧ WF l m' ∧ ErrV A e k ∧ qv.oneCell' = true ∧ (k = .ok → RRess V' qv rl) := by
 have hs := St.start1 hV hown (bU _ _) hvn
 have hp' := hp
 obtain ⟨m0, x1, x2, x3, x4, x5, x6, rfl, ⟨hm0, hx4, hx5, hx6⟩, hx⟩ := hp'
 refine aT [_] Tryz.func45 Tryz.ntmps45 Tryz.results45 rfl rfl (dP (dN rfl rfl (dN rfl rfl (aH (dP (dM rfl rfl (lp (aN rfl) rfl (lp (aR fo_100_1 rfl) rfl (lp (bD fo_97_5 rfl) rfl (lp (aO rfl (aQ k_22 (hs.g 0 rfl) rfl)) rfl (lp (bY Tryz.underlying22 Tryz.underlying3 rfl (i64c (c := x6) rfl (by omega))) rfl (dN rfl rfl (aH ?_)))))))))))))
 refine dG (fun ρ w => ∃ nn : Nat, nn ≤ 20 ∧ Sub (upd (upd emp 4 (.int .i64 nn)) 0 (.pointer (some ⟨bp, 0, none⟩))) ρ ∧ St ⟨w0, V, V⟩ w [(bp, .cells (parC m0 x1 x2 x3 x4 x5 x6 m).toArray E (0, 0))]) ?_ ?_
 refine dP (dM rfl rfl (lp (cQ rfl rfl) rfl (aH (bH rfl (fun hc0 => ?_) (fun hc0 => ?_)))))
 refine aB (dN rfl rfl (aH ?_))
 exact ⟨10, by decide, aL rfl (aL rfl (bG _)), hs⟩
 refine aW ?_
 exact ⟨x6, by omega, aL rfl (aL rfl (bG _)), hs⟩
 clear hs
 rintro ρ w ⟨nn, hnn, hsub, hs⟩
 refine EW.weaken hsub (dP (dM rfl rfl (aJ (o_make (l := 0) (c := nn) el_52 hs rfl rfl rfl rfl (by omega) (by omega) (by omega) rfl (fun b17 w hb17 he17 hs => ?_)))))
 have hsl : Sl 116 261 ⟨w0, V, V⟩ w [(bp, .cells (parC m0 x1 x2 x3 x4 x5 x6 m).toArray E (0, 0))] (.slice (some ⟨b17, 0, none⟩) 0 nn) 0 [] := ⟨rfl, .inr ⟨b17, nn, _, rfl, by rw [List.nil_append]; exact made_len _ _, by omega, by unfold maxLen; omega, hb17, hs⟩⟩
 refine dN rfl rfl (aH (bQ (dC (fun g : PM × Nat × List Value × List PRec × List Value × Value × Vw => upd (upd emp 5 g.2.2.2.2.2.1) 0 (.pointer (some ⟨bp, 0, none⟩))) (fun g w' => Sl 116 261 ⟨w0, V, g.2.2.2.2.2.2⟩ w' [(bp, .cells g.2.2.1.toArray E (0, 0))] g.2.2.2.2.2.1 g.2.2.2.1.length g.2.2.2.2.1 ∧ Rows 261 (RRes g.2.2.2.2.2.2) g.2.2.2.1 g.2.2.2.2.1 ∧ PR l mv g.1 g.2.2.1 ∧ WF l g.1 ∧ allRecs l 4 g.2.1 g.1 g.2.2.2.1 = allRecs l 4 fuel m [] ∧ 1 ≤ g.2.1 ∧ (g.1.sec = 4 → count l 4 - g.1.index < g.2.1) ∧ g.2.1 + g.2.2.2.1.length = fuel) (fun g => g.2.1) (m, fuel, _, [], [], .slice (some ⟨b17, 0, none⟩) 0 nn, V) (aL rfl (aL rfl (bG _))) ⟨hsl, rfl, hp, hwf, rfl, (by decide : 1 ≤ fuel), fun _ => by have := cW l 4; show _ < 65537; omega, rfl⟩ ?_)))
 clear hs hsl hp hwf
 rintro ⟨mm, f, cc, acc, xs, sv, Vc⟩ w ⟨hsl, hrows, hp, hwf, heq, hf1, hf2, hf3⟩
 simp only at hsl hrows hp hwf heq hf1 hf2 hf3 ⊢
 have hle := hsl.st.view
 replace hG := hG.mono hle
 replace hb := hb.mono hle
 have hfu : fuel = 65537 := rfl
 obtain ⟨f, rfl⟩ : ∃ f', f = f' + 1 := ⟨f - 1, by omega⟩
 obtain ⟨X, hX, hs⟩ := hsl.open
 refine bQ (dP (dM rfl rfl (aZ ok_83 rfl rfl (c_oneAdditional hG hs.isIn hb (hs.g 0 rfl) (hs.off (k := 0) rfl) hp hwf h2l) rfl (fun v20 w HF => ?_))))
 obtain ⟨V', cs', rcs, e, k, ro, m', rfl, hc, hpm, hp, he, hql, hqf, hq⟩ := HF
 have hle' := hc.view
 replace hs := hs.frame1 (k := 0) rfl rfl hc
 have hwf' := wf_recordM hwf (by decide : 1 ≤ 4) (by decide)
 rw [hpm] at hwf'
 rw [allRecs, hpm] at heq
 refine dM rfl rfl (dO rfl rfl rfl (dO rfl rfl rfl (aJ (aX hs z_116 rfl (fun b6 w hb6 he6 hs => aJ (dR 0 hs k_116 rfl rfl rfl hql (by simp) hqf rfl (fun w hs => dN rfl rfl (aH (aF (dP (dM rfl rfl (lp (aO rfl (bR k_57 ((hG.mono hle').ld hs.isIn (g := 5) rfl))) rfl (lp (po_err_eq_g (.inr ⟨rfl, rfl⟩) (hG.mono hle') hs.isIn he rfl rfl) rfl (aH (bH rfl (fun hc1 => ?_) (fun hc1 => ?_))))))))))))))))
 refine dP (dM rfl rfl (dN rfl rfl (dN rfl rfl (aH (aV ⟨_, res2 rfl rfl, ?_⟩)))))
 subst hc1
 replace hs := SlX.close (L := [_]) hX (hs.drop hb6)
 obtain ⟨V2, hle2, hsv, hs⟩ := hs.give
 exact ⟨V2, _, _, _, .ok, acc, m', rfl, hs, heq.symm, hp, hwf', rfl, hsv.oneCell, fun _ => ⟨xs, hsv, hrows.mono fun _ _ h => h.mono (Vw.le_trans hle' hle2)⟩⟩
 refine aW (aF (dP (dM rfl rfl (lp (bB he rfl) rfl (aH (bH rfl (fun hc2 => ?_) (fun hc2 => ?_)))))))
 refine dP (dM rfl rfl (dN rfl rfl (dN rfl rfl (aH (aV ⟨_, res2 rfl rfl, ?_⟩)))))
 have : allRecs l 4 fuel m [] = (k, [], m') := by
  rw [← heq]
  cases k <;> first | rfl | exact absurd rfl hc2 | exact absurd rfl hc1
 replace hs := (SlX.close (L := [_]) hX (hs.drop hb6)).st
 exact ⟨V', _, _, _, k, [], m', rfl, hs, this, hp, hwf', he, rfl, fun h => absurd h hc2⟩
 have hk : k = .ok := by simpa using hc2
 subst hk
 obtain ⟨n1, n2, n3, n4⟩ := recordM_nxt hwf (by decide) (by decide) hpm
 obtain ⟨a, rfl, hRQ⟩ := hq rfl
 refine aW (aB (dM rfl rfl (lp (aO rfl (aP k_116 (hs.g 0 rfl) hql)) rfl (l_app1 (cl := rcs) el_52 (SlX.close (L := [_, _]) hX hs) (fun _ => rfl) rfl rfl hql hqf (by omega) (by omega) (by omega) rfl rfl (fun b32 sv' w hs => ?_)))))
 replace hs := hs.drop hb6
 skip
 refine dN rfl rfl (aH ?_)
 have hs' : Sl 116 261 ⟨w0, V, V'⟩ w [(bp, .cells cs'.toArray E (0, 0))] sv' (acc ++ [a]).length (xs ++ rcs) := by rw [List.length_append]; exact hs
 exact ⟨(m', f, _, acc ++ [a], _, sv', V'), aL rfl (aL rfl (bG _)), ⟨hs', Rows.snoc (hrows.mono fun _ _ h => h.mono hle') hRQ hql, hp, hwf', heq, by have := hf2 n1; simp only; omega, fun _ => by have := hf2 n1; simp only; omega, by simp; omega⟩, by simp only; omega⟩
end
end Go.Proofs.YtgpfjlfkaoffeaaGreatDoor

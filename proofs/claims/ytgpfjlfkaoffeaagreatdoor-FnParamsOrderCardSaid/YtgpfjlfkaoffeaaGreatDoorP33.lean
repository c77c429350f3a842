/- A step of the questions, a step of a section. -/
import Derived.Test.YtgpfjlfkaoffeaaGreatDoorP32
set_option linter.all false
namespace Go.Proofs.YtgpfjlfkaoffeaaGreatDoor
open Go
section
variable {l : List UInt8} {m m' : PM} {k : EK} {s : Nat}
theorem allAsks_len {f : Nat} {acc al : List PAsk} (h : allAsks l f m acc = (k, al, m')) : al.length ≤ acc.length + f := by
 induction f generalizing m acc with
 | zero => cases h; exact Nat.le_refl _
 | succ f ih =>
  unfold allAsks at h
  split at h
  have := ih h; simp at this; omega
  cases h; exact Nat.zero_le _
  cases h; omega
  cases h; exact Nat.zero_le _
theorem allRecs_len {f : Nat} {acc al : List PRec} (h : allRecs l s f m acc = (k, al, m')) : al.length ≤ acc.length + f := by
 induction f generalizing m acc with
 | zero => cases h; exact Nat.le_refl _
 | succ f ih =>
  unfold allRecs at h
  split at h
  have := ih h; simp at this; omega
  cases h; exact Nat.zero_le _
  cases h; omega
  cases h; exact Nat.zero_le _
def onlyAsk : EK → Option PAsk → List PAsk
 | .ok, some a => [a]
 | _, _ => []
theorem questionM_2 {ao : Option PAsk} (h : askM l m = (k, ao, m')) : questionM l m 2 = ({ fault := k.num, asks := onlyAsk k ao }, m') := by
 unfold questionM; rw [if_pos rfl]; simp only [h]
 cases k <;> cases ao <;> rfl
theorem questionM_3 {al : List PAsk} (h : allAsks l fuel m [] = (k, al, m')) : questionM l m 3 = ({ fault := k.num, asks := if k = .ok then al else [] }, m') := by
 unfold questionM; rw [if_neg (by decide), if_pos rfl]; simp only [h]
theorem questionM_4 (h : passAskM l m = (k, m')) : questionM l m 4 = ({ fault := k.num }, m') := by
 unfold questionM; rw [if_neg (by decide), if_neg (by decide), if_pos rfl]; simp only [h]
theorem questionM_5 (h : allPassAsk l fuel m = (k, m')) : questionM l m 5 = ({ fault := k.num }, m') := by
 unfold questionM; rw [if_neg (by decide), if_neg (by decide), if_neg (by decide)]; simp only [h]
theorem partM_0 {ro : Option PRec} (h : beginM l m s = (k, ro, m')) : partM l m s 0 = (onlyRec k ro, m') := by
 unfold partM; rw [if_pos rfl]; simp only [h]
theorem partM_1 {ro : Option PRec} (h : recordM l m s = (k, ro, m')) : partM l m s 1 = (onlyRec k ro, m') := by
 unfold partM; rw [if_neg (by decide), if_pos rfl]; simp only [h]
theorem partM_2 {rl : List PRec} (h : allRecs l s fuel m [] = (k, rl, m')) : partM l m s 2 = ({ fault := k.num, recs := if k = .ok then rl else [] }, m') := by
 unfold partM; rw [if_neg (by decide), if_neg (by decide), if_pos rfl]; simp only [h]
theorem partM_3 (h : passM l m s = (k, m')) : partM l m s 3 = ({ fault := k.num }, m') := by
 unfold partM; rw [if_neg (by decide), if_neg (by decide), if_neg (by decide), if_pos rfl]; simp only [h]
theorem partM_4 (h : allPass l s fuel m = (k, m')) : partM l m s 4 = ({ fault := k.num }, m') := by
 unfold partM; rw [if_neg (by decide), if_neg (by decide), if_neg (by decide), if_neg (by decide)]; simp only [h]
theorem asks_bad {ao : Option PAsk} (hk : k ≠ .ok) : onlyAsk k ao = [] := by
 cases k <;> first | rfl | exact absurd rfl hk
theorem beginM_whole {r : PRec} (h : beginM l m s = (.ok, some r, m')) : whole {} r = r := by
 obtain ⟨r', o, m2, _, h2, h3, _⟩ := beginM_ok h
 cases h3
 exact header_whole h2
end
theorem rseen_asks {V : Vw} {v : Value} {l : List PAsk} (h : RAsks V v l) : RSeen V { asks := l } (.int .i64 0 :: (headC 0 0 ++ [v, .slice none 0 0])) := ⟨_, _, rfl, h, RRecs.nil V⟩
section
variable {A : Nat → Addr} {V : Vw} {w0 : World} {l : List UInt8} {mv : Value} {bp : Nat} {E : TypeId} {m : PM} {cs : List Value}
set_option maxHeartbeats 1000000 in
theorem c_iquestion (hG : Gl A V) (hV : V.In w0) (hb : RB V mv l) (hown : w0.heap[bp]? = some (.cells cs.toArray E (0, 0))) (hvn : V bp = none) (hp : PR l mv m cs) (hwf : WF l m) (h2l : l.length ≤ 4294967296) (st : Nat) {sv : Int} (hsv : sv = st) (h2 : 2 ≤ st) (h5 : st ≤ 5) :
  CallsV Tryz.prog 37 #[.pointer (some ⟨bp, 0, none⟩), .int .i64 sv] w0 fun v w' => ∃ (V' : Vw) (cs' sc : List Value) (s : PSeen) (m' : PM), v = .agg sc.toArray ∧ St ⟨w0, V, V'⟩ w' [(bp, .cells cs'.toArray E (0, 0))] ∧ questionM l m st = (s, m') ∧ PR l mv m' cs' ∧ WF l m' ∧ RSeen V' s sc := by
 subst hsv
 have hs := St.start1 hV hown (bU _ _) hvn
 refine aT [_, _] Tryz.func37 Tryz.ntmps37 Tryz.results37 rfl rfl (dP (aJ (aX hs z_81 rfl (fun b4 w hb4 he4 hs => aH (aF (dP (dM rfl rfl (aH (bQ (dP (lp (bI rfl rfl) rfl (dN rfl rfl (aH (bH rfl (fun hc0 => ?_) (fun hc0 => ?_)))))))))))))))
 have hst : st = 2 := by omega
 subst hst
 refine dP (dM rfl rfl (aZ ok_68 rfl rfl (c_question hG hs.isIn hb (hs.g 1 rfl) (hs.off (k := 1) rfl) hp hwf h2l) rfl (fun v14 w HF => ?_)))
 obtain ⟨cs', qcs, e, k, ao, m', rfl, hc, hm, hp, he, hql, hqf, hq⟩ := HF
 replace hs := hs.frame1 (k := 1) rfl rfl hc
 have hwf' := wf_askM hwf
 rw [hm] at hwf'
 refine dM rfl rfl (dO rfl rfl rfl (dO rfl rfl rfl (aJ (aX hs z_90 rfl (fun b5 w hb5 he5 hs => aJ (dR 0 hs k_90 rfl rfl rfl hql (by simp) hqf rfl (fun w hs => dN rfl rfl (aH (aF (dP (dM rfl rfl (lp (bB he rfl) rfl (aH (bH rfl (fun hc1 => ?_) (fun hc1 => ?_)))))))))))))))
 refine dP (dM rfl rfl (aZ ok_36 rfl rfl (c_faultOf hG hs.isIn he) rfl (fun v20 w HF => ?_)))
 obtain ⟨rfl, hc⟩ := HF
 replace hs := hs.frame hc
 refine lp (bL rfl (by rfl) (bu_81_0 _)) rfl (aJ (dR 1 hs k_81 rfl rfl rfl (by simp) (by simp) (aG rfl) rfl (fun w hs => aH (aV ⟨_, res1 ⟨_, rfl, aP k_81 (hs.g 1 rfl) rfl⟩, ?_⟩))))
 exact ⟨V, _, _, _, m', rfl, (hs.drop hb5).drop hb4, questionM_2 hm, hp, hwf', by rw [asks_bad hc1]; exact RSeen.fault V k⟩
 have hk : k = .ok := by simpa using hc1
 subst hk
 obtain ⟨a, rfl, hRQ⟩ := hq rfl
 refine aW (dP (lp (aO rfl (aP k_90 (hs.g 0 rfl) hql)) rfl (aZ ok_46 rfl rfl (c_askOf hs.isIn hRQ) rfl (fun v23 w HF => ?_))))
 obtain ⟨rfl, hc⟩ := HF
 replace hs := hs.frame hc
 refine aJ (o_bslice (vls := [askC a]) el_34 hs rfl rfl rfl rfl (by simp [askC]) (by decide) (by decide) rfl (fun b24 w hb24 he24 hs => lp (bL rfl (by rfl) (bu_81_2 _)) rfl (aJ (dR 2 hs k_81 rfl rfl rfl (by simp) (by simp) (aG rfl) rfl (fun w hs => aH (aV ⟨_, res1 ⟨_, rfl, aP k_81 (hs.g 2 rfl) rfl⟩, ?_⟩))))))
 obtain ⟨V', hle, hbv, hs⟩ := hs.give hb24
 exact ⟨V', _, _, _, m', rfl, (hs.drop hb5).drop hb4, questionM_2 hm, hp, hwf', rseen_asks (v := .slice (some ⟨b24, 0, none⟩) 1 1) ⟨askC a, SlV.cells (sp := []) (by rw [List.append_nil]; exact hbv) rfl (Nat.le_refl _), Rows.one rfl rfl⟩⟩
 refine dP (lp (bI rfl rfl) rfl (dN rfl rfl (aH (bH rfl (fun hc2 => ?_) (fun hc2 => ?_)))))
 have hst : st = 3 := by omega
 subst hst
 refine dP (dM rfl rfl (aZ ok_42 rfl rfl (c_allQuestions hG hs.isIn hb (hs.g 1 rfl) (hs.off (k := 1) rfl) hp hwf h2l) rfl (fun v30 w HF => ?_)))
 obtain ⟨V1, cs', qv, e, k, al, m', rfl, hc, hm, hp, hwf', he, hq1, hq⟩ := HF
 have hle1 := hc.view
 replace hs := hs.frame1 (k := 1) rfl rfl hc
 refine dM rfl rfl (dO rfl rfl rfl (dO rfl rfl rfl (dN rfl rfl (dN rfl rfl (aH (aF (dP (dM rfl rfl (lp (bB he rfl) rfl (aH (bH rfl (fun hc3 => ?_) (fun hc3 => ?_))))))))))))
 refine dP (dM rfl rfl (aZ ok_36 rfl rfl (c_faultOf (hG.mono hle1) hs.isIn he) rfl (fun v36 w HF => ?_)))
 obtain ⟨rfl, hc⟩ := HF
 replace hs := hs.frame hc
 refine lp (bL rfl (by rfl) (bu_81_0 _)) rfl (aJ (dR 0 hs k_81 rfl rfl rfl (by simp) (by simp) (aG rfl) rfl (fun w hs => aH (aV ⟨_, res1 ⟨_, rfl, aP k_81 (hs.g 0 rfl) rfl⟩, ?_⟩))))
 exact ⟨V1, _, _, _, m', rfl, hs.drop hb4, questionM_3 hm, hp, hwf', by rw [if_neg hc3]; exact RSeen.fault V1 k⟩
 have hk : k = .ok := by simpa using hc3
 subst hk
 refine aW (dP (dM rfl rfl (aZ ok_19 rfl rfl (c_asksOf hs.isIn (hq rfl) (by have := allAsks_len hm; have h0 : fuel = 65537 := rfl; simp at this; omega)) rfl (fun v39 w HF => ?_))))
 obtain ⟨V2, hc, hRA⟩ := HF
 replace hs := hs.frame hc
 refine lp (bL rfl (by simp only [List.all_cons, List.all_nil, hRA.oneCell]; rfl) (bu_81_2 _)) rfl (aJ (dR 0 hs k_81 rfl rfl rfl rfl rfl (aG (by simp only [List.all_cons, List.all_nil, hRA.oneCell]; rfl)) rfl (fun w hs => aH (aV ⟨_, res1 ⟨_, rfl, aP k_81 (hs.g 0 rfl) rfl⟩, ?_⟩))))
 exact ⟨V2, _, _, _, m', rfl, hs.drop hb4, questionM_3 hm, hp, hwf', rseen_asks hRA⟩
 refine dP (lp (bI rfl rfl) rfl (dN rfl rfl (aH (bH rfl (fun hc4 => ?_) (fun hc4 => ?_)))))
 have hst : st = 4 := by omega
 subst hst
 refine dP (dM rfl rfl (aZ ok_69 rfl rfl (c_skipQuestion hG hs.isIn hb (hs.g 1 rfl) (hs.off (k := 1) rfl) hp hwf h2l) rfl (fun v44 w HF => ?_)))
 obtain ⟨cs', k, m', hc, hm, hp, he⟩ := HF
 replace hs := hs.frame1 (k := 1) rfl rfl hc
 have hwf' := wf_passAskM hwf
 rw [hm] at hwf'
 refine aZ ok_36 rfl rfl (c_faultOf hG hs.isIn he) rfl (fun v45 w HF => ?_)
 obtain ⟨rfl, hc⟩ := HF
 replace hs := hs.frame hc
 refine lp (bL rfl (by rfl) (bu_81_0 _)) rfl (aJ (dR 0 hs k_81 rfl rfl rfl (by simp) (by simp) (aG rfl) rfl (fun w hs => aH (aV ⟨_, res1 ⟨_, rfl, aP k_81 (hs.g 0 rfl) rfl⟩, ?_⟩))))
 exact ⟨V, _, _, _, m', rfl, hs.drop hb4, questionM_4 hm, hp, hwf', RSeen.fault V k⟩
 have hst : st = 5 := by omega
 subst hst
 refine aW (dP (dM rfl rfl (aZ ok_70 rfl rfl (c_skipAllQuestions hG hs.isIn hb (hs.g 1 rfl) (hs.off (k := 1) rfl) hp hwf h2l) rfl (fun v48 w HF => ?_))))
 obtain ⟨cs', k, m', hc, hm, hp, hwf', he⟩ := HF
 replace hs := hs.frame1 (k := 1) rfl rfl hc
 refine aZ ok_36 rfl rfl (c_faultOf hG hs.isIn he) rfl (fun v49 w HF => ?_)
 obtain ⟨rfl, hc⟩ := HF
 replace hs := hs.frame hc
 refine lp (bL rfl (by rfl) (bu_81_0 _)) rfl (aJ (dR 0 hs k_81 rfl rfl rfl (by simp) (by simp) (aG rfl) rfl (fun w hs => aH (aV ⟨_, res1 ⟨_, rfl, aP k_81 (hs.g 0 rfl) rfl⟩, ?_⟩))))
 exact ⟨V, _, _, _, m', rfl, hs.drop hb4, questionM_5 hm, hp, hwf', RSeen.fault V k⟩
set_option maxHeartbeats 1000000 in
theorem c_ianswer (hG : Gl A V) (hV : V.In w0) (hb : RB V mv l) (hown : w0.heap[bp]? = some (.cells cs.toArray E (0, 0))) (hvn : V bp = none) (hp : PR l mv m cs) (hwf : WF l m) (h2l : l.length ≤ 4294967296) (st : Nat) {sv : Int} (hsv : sv = st) (h2 : 6 ≤ st) (h5 : st ≤ 10) :
  CallsV Tryz.prog 38 #[.pointer (some ⟨bp, 0, none⟩), .int .i64 sv] w0 fun v w' => ∃ (V' : Vw) (cs' sc : List Value) (s : PSeen) (m' : PM), v = .agg sc.toArray ∧ St ⟨w0, V, V'⟩ w' [(bp, .cells cs'.toArray E (0, 0))] ∧ partM l m 2 (st - 6) = (s, m') ∧ PR l mv m' cs' ∧ WF l m' ∧ RSeen V' s sc := by
 subst hsv
 have hs := St.start1 hV hown (bU _ _) hvn
 refine aT [_, _] Tryz.func38 Tryz.ntmps38 Tryz.results38 rfl rfl (dP (aJ (aX hs z_81 rfl (fun b4 w hb4 he4 hs => aH (aF (dP (dM rfl rfl (aH (bQ (dP (lp (bI rfl rfl) rfl (dN rfl rfl (aH (bH rfl (fun hc0 => ?_) (fun hc0 => ?_)))))))))))))))
 have hst : st = 6 := by omega
 subst hst
 refine dP (dM rfl rfl (aZ ok_72 rfl rfl (c_hdrAnswer hG hs.isIn hb (hs.g 1 rfl) (hs.off (k := 1) rfl) hp hwf h2l) rfl (fun v9 w HF => ?_)))
 obtain ⟨cs', hcs, e, k, ro, m', rfl, hc, hm, hp, he, hl, hf, hr⟩ := HF
 replace hs := hs.frame1 (k := 1) rfl rfl hc
 have hwf' := wf_beginM hwf (by decide : 1 ≤ 2) (by decide)
 rw [hm] at hwf'
 refine dO rfl rfl rfl (dO rfl rfl rfl (aZ ok_71 rfl rfl (c_seenHeader (ro := ro) hG hs.isIn he hl hf (fun hk => by subst hk; obtain ⟨r, h1, h2, h3⟩ := hr rfl; subst h1; exact ⟨r, rfl, h2, h3, beginM_whole hm⟩)) rfl (fun v12 w HF => ?_)))
 obtain ⟨V1, sc, rfl, hc, hRS⟩ := HF
 replace hs := hs.frame hc
 refine aJ (dR 0 hs k_81 rfl rfl rfl hRS.flat.2 rfl hRS.flat.1 rfl (fun w hs => aH (aV ⟨_, res1 ⟨_, rfl, aP k_81 (hs.g 0 rfl) hRS.flat.2⟩, ?_⟩)))
 exact ⟨V1, _, _, _, m', rfl, hs.drop hb4, partM_0 hm, hp, hwf', hRS⟩
 refine dP (lp (bI rfl rfl) rfl (dN rfl rfl (aH (bH rfl (fun hc1 => ?_) (fun hc1 => ?_)))))
 have hst : st = 6 + 1 := by omega
 subst hst
 refine dP (dM rfl rfl (aZ ok_74 rfl rfl (c_oneAnswer hG hs.isIn hb (hs.g 1 rfl) (hs.off (k := 1) rfl) hp hwf h2l) rfl (fun v16 w HF => ?_)))
 obtain ⟨V1, cs', rcs, e, k, ro, m', rfl, hc, hm, hp, he, hl, hf, hr⟩ := HF
 have hle1 := hc.view
 replace hs := hs.frame1 (k := 1) rfl rfl hc
 have hwf' := wf_recordM hwf (by decide : 1 ≤ 2) (by decide)
 rw [hm] at hwf'
 refine dO rfl rfl rfl (dO rfl rfl rfl (aZ ok_73 rfl rfl (c_seenRecord (ro := ro) (hG.mono hle1) hs.isIn he hl hr) rfl (fun v19 w HF => ?_)))
 obtain ⟨V2, sc, rfl, hc, hRS⟩ := HF
 replace hs := hs.frame hc
 refine aJ (dR 0 hs k_81 rfl rfl rfl hRS.flat.2 rfl hRS.flat.1 rfl (fun w hs => aH (aV ⟨_, res1 ⟨_, rfl, aP k_81 (hs.g 0 rfl) hRS.flat.2⟩, ?_⟩)))
 exact ⟨V2, _, _, _, m', rfl, hs.drop hb4, partM_1 hm, hp, hwf', hRS⟩
 refine dP (lp (bI rfl rfl) rfl (dN rfl rfl (aH (bH rfl (fun hc2 => ?_) (fun hc2 => ?_)))))
 have hst : st = 6 + 2 := by omega
 subst hst
 refine dP (dM rfl rfl (aZ ok_43 rfl rfl (c_allAnswers hG hs.isIn hb (hs.g 1 rfl) (hs.off (k := 1) rfl) hp hwf h2l) rfl (fun v23 w HF => ?_)))
 obtain ⟨V1, cs', qv, e, k, rl, m', rfl, hc, hm, hp, hwf', he, hq1, hr⟩ := HF
 have hle1 := hc.view
 replace hs := hs.frame1 (k := 1) rfl rfl hc
 refine dO rfl rfl rfl (dO rfl rfl rfl (aZ ok_75 rfl rfl (c_seenRecords (rl := rl) (hG.mono hle1) hs.isIn he (by have := allRecs_len hm; have h0 : fuel = 65537 := rfl; simp at this; omega) hr) rfl (fun v26 w HF => ?_)))
 obtain ⟨V2, sc, rfl, hc, hRS⟩ := HF
 replace hs := hs.frame hc
 refine aJ (dR 0 hs k_81 rfl rfl rfl hRS.flat.2 rfl hRS.flat.1 rfl (fun w hs => aH (aV ⟨_, res1 ⟨_, rfl, aP k_81 (hs.g 0 rfl) hRS.flat.2⟩, ?_⟩)))
 exact ⟨V2, _, _, _, m', rfl, hs.drop hb4, partM_2 hm, hp, hwf', hRS⟩
 refine dP (lp (bI rfl rfl) rfl (dN rfl rfl (aH (bH rfl (fun hc3 => ?_) (fun hc3 => ?_)))))
 have hst : st = 6 + 3 := by omega
 subst hst
 refine dP (dM rfl rfl (aZ ok_76 rfl rfl (c_skipAnswer hG hs.isIn hb (hs.g 1 rfl) (hs.off (k := 1) rfl) hp hwf h2l) rfl (fun v30 w HF => ?_)))
 obtain ⟨cs', k, m', hc, hm, hp, he⟩ := HF
 replace hs := hs.frame1 (k := 1) rfl rfl hc
 have hwf' := wf_passM hwf (by decide : 1 ≤ 2) (by decide)
 rw [hm] at hwf'
 refine aZ ok_36 rfl rfl (c_faultOf hG hs.isIn he) rfl (fun v31 w HF => ?_)
 obtain ⟨rfl, hc⟩ := HF
 replace hs := hs.frame hc
 refine lp (bL rfl (by rfl) (bu_81_0 _)) rfl (aJ (dR 0 hs k_81 rfl rfl rfl (by simp) (by simp) (aG rfl) rfl (fun w hs => aH (aV ⟨_, res1 ⟨_, rfl, aP k_81 (hs.g 0 rfl) rfl⟩, ?_⟩))))
 exact ⟨V, _, _, _, m', rfl, hs.drop hb4, partM_3 hm, hp, hwf', RSeen.fault V k⟩
 have hst : st = 6 + 4 := by omega
 subst hst
 refine aW (dP (dM rfl rfl (aZ ok_77 rfl rfl (c_skipAllAnswers hG hs.isIn hb (hs.g 1 rfl) (hs.off (k := 1) rfl) hp hwf h2l) rfl (fun v34 w HF => ?_))))
 obtain ⟨cs', k, m', hc, hm, hp, hwf', he⟩ := HF
 replace hs := hs.frame1 (k := 1) rfl rfl hc
 refine aZ ok_36 rfl rfl (c_faultOf hG hs.isIn he) rfl (fun v35 w HF => ?_)
 obtain ⟨rfl, hc⟩ := HF
 replace hs := hs.frame hc
 refine lp (bL rfl (by rfl) (bu_81_0 _)) rfl (aJ (dR 0 hs k_81 rfl rfl rfl (by simp) (by simp) (aG rfl) rfl (fun w hs => aH (aV ⟨_, res1 ⟨_, rfl, aP k_81 (hs.g 0 rfl) rfl⟩, ?_⟩))))
 exact ⟨V, _, _, _, m', rfl, hs.drop hb4, partM_4 hm, hp, hwf', RSeen.fault V k⟩
set_option maxHeartbeats 1000000 in
theorem c_iauthority (hG : Gl A V) (hV : V.In w0) (hb : RB V mv l) (hown : w0.heap[bp]? = some (.cells cs.toArray E (0, 0))) (hvn : V bp = none) (hp : PR l mv m cs) (hwf : WF l m) (h2l : l.length ≤ 4294967296) (st : Nat) {sv : Int} (hsv : sv = st) (h2 : 11 ≤ st) (h5 : st ≤ 15) :
  CallsV Tryz.prog 39 #[.pointer (some ⟨bp, 0, none⟩), .int .i64 sv] w0 fun v w' => ∃ (V' : Vw) (cs' sc : List Value) (s : PSeen) (m' : PM), v = .agg sc.toArray ∧ St ⟨w0, V, V'⟩ w' [(bp, .cells cs'.toArray E (0, 0))] ∧ partM l m 3 (st - 11) = (s, m') ∧ PR l mv m' cs' ∧ WF l m' ∧ RSeen V' s sc := by
 subst hsv
 have hs := St.start1 hV hown (bU _ _) hvn
 refine aT [_, _] Tryz.func39 Tryz.ntmps39 Tryz.results39 rfl rfl (dP (aJ (aX hs z_81 rfl (fun b4 w hb4 he4 hs => aH (aF (dP (dM rfl rfl (aH (bQ (dP (lp (bI rfl rfl) rfl (dN rfl rfl (aH (bH rfl (fun hc0 => ?_) (fun hc0 => ?_)))))))))))))))
 have hst : st = 11 := by omega
 subst hst
 refine dP (dM rfl rfl (aZ ok_78 rfl rfl (c_hdrAuthority hG hs.isIn hb (hs.g 1 rfl) (hs.off (k := 1) rfl) hp hwf h2l) rfl (fun v9 w HF => ?_)))
 obtain ⟨cs', hcs, e, k, ro, m', rfl, hc, hm, hp, he, hl, hf, hr⟩ := HF
 replace hs := hs.frame1 (k := 1) rfl rfl hc
 have hwf' := wf_beginM hwf (by decide : 1 ≤ 3) (by decide)
 rw [hm] at hwf'
 refine dO rfl rfl rfl (dO rfl rfl rfl (aZ ok_71 rfl rfl (c_seenHeader (ro := ro) hG hs.isIn he hl hf (fun hk => by subst hk; obtain ⟨r, h1, h2, h3⟩ := hr rfl; subst h1; exact ⟨r, rfl, h2, h3, beginM_whole hm⟩)) rfl (fun v12 w HF => ?_)))
 obtain ⟨V1, sc, rfl, hc, hRS⟩ := HF
 replace hs := hs.frame hc
 refine aJ (dR 0 hs k_81 rfl rfl rfl hRS.flat.2 rfl hRS.flat.1 rfl (fun w hs => aH (aV ⟨_, res1 ⟨_, rfl, aP k_81 (hs.g 0 rfl) hRS.flat.2⟩, ?_⟩)))
 exact ⟨V1, _, _, _, m', rfl, hs.drop hb4, partM_0 hm, hp, hwf', hRS⟩
 refine dP (lp (bI rfl rfl) rfl (dN rfl rfl (aH (bH rfl (fun hc1 => ?_) (fun hc1 => ?_)))))
 have hst : st = 11 + 1 := by omega
 subst hst
 refine dP (dM rfl rfl (aZ ok_79 rfl rfl (c_oneAuthority hG hs.isIn hb (hs.g 1 rfl) (hs.off (k := 1) rfl) hp hwf h2l) rfl (fun v16 w HF => ?_)))
 obtain ⟨V1, cs', rcs, e, k, ro, m', rfl, hc, hm, hp, he, hl, hf, hr⟩ := HF
 have hle1 := hc.view
 replace hs := hs.frame1 (k := 1) rfl rfl hc
 have hwf' := wf_recordM hwf (by decide : 1 ≤ 3) (by decide)
 rw [hm] at hwf'
 refine dO rfl rfl rfl (dO rfl rfl rfl (aZ ok_73 rfl rfl (c_seenRecord (ro := ro) (hG.mono hle1) hs.isIn he hl hr) rfl (fun v19 w HF => ?_)))
 obtain ⟨V2, sc, rfl, hc, hRS⟩ := HF
 replace hs := hs.frame hc
 refine aJ (dR 0 hs k_81 rfl rfl rfl hRS.flat.2 rfl hRS.flat.1 rfl (fun w hs => aH (aV ⟨_, res1 ⟨_, rfl, aP k_81 (hs.g 0 rfl) hRS.flat.2⟩, ?_⟩)))
 exact ⟨V2, _, _, _, m', rfl, hs.drop hb4, partM_1 hm, hp, hwf', hRS⟩
 refine dP (lp (bI rfl rfl) rfl (dN rfl rfl (aH (bH rfl (fun hc2 => ?_) (fun hc2 => ?_)))))
 have hst : st = 11 + 2 := by omega
 subst hst
 refine dP (dM rfl rfl (aZ ok_44 rfl rfl (c_allAuthorities hG hs.isIn hb (hs.g 1 rfl) (hs.off (k := 1) rfl) hp hwf h2l) rfl (fun v23 w HF => ?_)))
 obtain ⟨V1, cs', qv, e, k, rl, m', rfl, hc, hm, hp, hwf', he, hq1, hr⟩ := HF
 have hle1 := hc.view
 replace hs := hs.frame1 (k := 1) rfl rfl hc
 refine dO rfl rfl rfl (dO rfl rfl rfl (aZ ok_75 rfl rfl (c_seenRecords (rl := rl) (hG.mono hle1) hs.isIn he (by have := allRecs_len hm; have h0 : fuel = 65537 := rfl; simp at this; omega) hr) rfl (fun v26 w HF => ?_)))
 obtain ⟨V2, sc, rfl, hc, hRS⟩ := HF
 replace hs := hs.frame hc
 refine aJ (dR 0 hs k_81 rfl rfl rfl hRS.flat.2 rfl hRS.flat.1 rfl (fun w hs => aH (aV ⟨_, res1 ⟨_, rfl, aP k_81 (hs.g 0 rfl) hRS.flat.2⟩, ?_⟩)))
 exact ⟨V2, _, _, _, m', rfl, hs.drop hb4, partM_2 hm, hp, hwf', hRS⟩
 refine dP (lp (bI rfl rfl) rfl (dN rfl rfl (aH (bH rfl (fun hc3 => ?_) (fun hc3 => ?_)))))
 have hst : st = 11 + 3 := by omega
 subst hst
 refine dP (dM rfl rfl (aZ ok_80 rfl rfl (c_skipAuthority hG hs.isIn hb (hs.g 1 rfl) (hs.off (k := 1) rfl) hp hwf h2l) rfl (fun v30 w HF => ?_)))
 obtain ⟨cs', k, m', hc, hm, hp, he⟩ := HF
 replace hs := hs.frame1 (k := 1) rfl rfl hc
 have hwf' := wf_passM hwf (by decide : 1 ≤ 3) (by decide)
 rw [hm] at hwf'
 refine aZ ok_36 rfl rfl (c_faultOf hG hs.isIn he) rfl (fun v31 w HF => ?_)
 obtain ⟨rfl, hc⟩ := HF
 replace hs := hs.frame hc
 refine lp (bL rfl (by rfl) (bu_81_0 _)) rfl (aJ (dR 0 hs k_81 rfl rfl rfl (by simp) (by simp) (aG rfl) rfl (fun w hs => aH (aV ⟨_, res1 ⟨_, rfl, aP k_81 (hs.g 0 rfl) rfl⟩, ?_⟩))))
 exact ⟨V, _, _, _, m', rfl, hs.drop hb4, partM_3 hm, hp, hwf', RSeen.fault V k⟩
 have hst : st = 11 + 4 := by omega
 subst hst
 refine aW (dP (dM rfl rfl (aZ ok_81 rfl rfl (c_skipAllAuthorities hG hs.isIn hb (hs.g 1 rfl) (hs.off (k := 1) rfl) hp hwf h2l) rfl (fun v34 w HF => ?_))))
 obtain ⟨cs', k, m', hc, hm, hp, hwf', he⟩ := HF
 replace hs := hs.frame1 (k := 1) rfl rfl hc
 refine aZ ok_36 rfl rfl (c_faultOf hG hs.isIn he) rfl (fun v35 w HF => ?_)
 obtain ⟨rfl, hc⟩ := HF
 replace hs := hs.frame hc
 refine lp (bL rfl (by rfl) (bu_81_0 _)) rfl (aJ (dR 0 hs k_81 rfl rfl rfl (by simp) (by simp) (aG rfl) rfl (fun w hs => aH (aV ⟨_, res1 ⟨_, rfl, aP k_81 (hs.g 0 rfl) rfl⟩, ?_⟩))))
 exact ⟨V, _, _, _, m', rfl, hs.drop hb4, partM_4 hm, hp, hwf', RSeen.fault V k⟩
set_option maxHeartbeats 1000000 in
theorem c_iadditional (hG : Gl A V) (hV : V.In w0) (hb : RB V mv l) (hown : w0.heap[bp]? = some (.cells cs.toArray E (0, 0))) (hvn : V bp = none) (hp : PR l mv m cs) (hwf : WF l m) (h2l : l.length ≤ 4294967296) (st : Nat) {sv : Int} (hsv : sv = st) (h2 : 16 ≤ st) (h5 : st ≤ 20) :
  CallsV Tryz.prog 40 #[.pointer (some ⟨bp, 0, none⟩), .int .i64 sv] w0 fun v w' => ∃ (V' : Vw) (cs' sc : List Value) (s : PSeen) (m' : PM), v = .agg sc.toArray ∧ St ⟨w0, V, V'⟩ w' [(bp, .cells cs'.toArray E (0, 0))] ∧ partM l m 4 (st - 16) = (s, m') ∧ PR l mv m' cs' ∧ WF l m' ∧ RSeen V' s sc := by
 subst hsv
 have hs := St.start1 hV hown (bU _ _) hvn
 refine aT [_, _] Tryz.func40 Tryz.ntmps40 Tryz.results40 rfl rfl (dP (aJ (aX hs z_81 rfl (fun b4 w hb4 he4 hs => aH (aF (dP (dM rfl rfl (aH (bQ (dP (lp (bI rfl rfl) rfl (dN rfl rfl (aH (bH rfl (fun hc0 => ?_) (fun hc0 => ?_)))))))))))))))
 have hst : st = 16 := by omega
 subst hst
 refine dP (dM rfl rfl (aZ ok_82 rfl rfl (c_hdrAdditional hG hs.isIn hb (hs.g 1 rfl) (hs.off (k := 1) rfl) hp hwf h2l) rfl (fun v9 w HF => ?_)))
 obtain ⟨cs', hcs, e, k, ro, m', rfl, hc, hm, hp, he, hl, hf, hr⟩ := HF
 replace hs := hs.frame1 (k := 1) rfl rfl hc
 have hwf' := wf_beginM hwf (by decide : 1 ≤ 4) (by decide)
 rw [hm] at hwf'
 refine dO rfl rfl rfl (dO rfl rfl rfl (aZ ok_71 rfl rfl (c_seenHeader (ro := ro) hG hs.isIn he hl hf (fun hk => by subst hk; obtain ⟨r, h1, h2, h3⟩ := hr rfl; subst h1; exact ⟨r, rfl, h2, h3, beginM_whole hm⟩)) rfl (fun v12 w HF => ?_)))
 obtain ⟨V1, sc, rfl, hc, hRS⟩ := HF
 replace hs := hs.frame hc
 refine aJ (dR 0 hs k_81 rfl rfl rfl hRS.flat.2 rfl hRS.flat.1 rfl (fun w hs => aH (aV ⟨_, res1 ⟨_, rfl, aP k_81 (hs.g 0 rfl) hRS.flat.2⟩, ?_⟩)))
 exact ⟨V1, _, _, _, m', rfl, hs.drop hb4, partM_0 hm, hp, hwf', hRS⟩
 refine dP (lp (bI rfl rfl) rfl (dN rfl rfl (aH (bH rfl (fun hc1 => ?_) (fun hc1 => ?_)))))
 have hst : st = 16 + 1 := by omega
 subst hst
 refine dP (dM rfl rfl (aZ ok_83 rfl rfl (c_oneAdditional hG hs.isIn hb (hs.g 1 rfl) (hs.off (k := 1) rfl) hp hwf h2l) rfl (fun v16 w HF => ?_)))
 obtain ⟨V1, cs', rcs, e, k, ro, m', rfl, hc, hm, hp, he, hl, hf, hr⟩ := HF
 have hle1 := hc.view
 replace hs := hs.frame1 (k := 1) rfl rfl hc
 have hwf' := wf_recordM hwf (by decide : 1 ≤ 4) (by decide)
 rw [hm] at hwf'
 refine dO rfl rfl rfl (dO rfl rfl rfl (aZ ok_73 rfl rfl (c_seenRecord (ro := ro) (hG.mono hle1) hs.isIn he hl hr) rfl (fun v19 w HF => ?_)))
 obtain ⟨V2, sc, rfl, hc, hRS⟩ := HF
 replace hs := hs.frame hc
 refine aJ (dR 0 hs k_81 rfl rfl rfl hRS.flat.2 rfl hRS.flat.1 rfl (fun w hs => aH (aV ⟨_, res1 ⟨_, rfl, aP k_81 (hs.g 0 rfl) hRS.flat.2⟩, ?_⟩)))
 exact ⟨V2, _, _, _, m', rfl, hs.drop hb4, partM_1 hm, hp, hwf', hRS⟩
 refine dP (lp (bI rfl rfl) rfl (dN rfl rfl (aH (bH rfl (fun hc2 => ?_) (fun hc2 => ?_)))))
 have hst : st = 16 + 2 := by omega
 subst hst
 refine dP (dM rfl rfl (aZ ok_45 rfl rfl (c_allAdditionals hG hs.isIn hb (hs.g 1 rfl) (hs.off (k := 1) rfl) hp hwf h2l) rfl (fun v23 w HF => ?_)))
 obtain ⟨V1, cs', qv, e, k, rl, m', rfl, hc, hm, hp, hwf', he, hq1, hr⟩ := HF
 have hle1 := hc.view
 replace hs := hs.frame1 (k := 1) rfl rfl hc
 refine dO rfl rfl rfl (dO rfl rfl rfl (aZ ok_75 rfl rfl (c_seenRecords (rl := rl) (hG.mono hle1) hs.isIn he (by have := allRecs_len hm; have h0 : fuel = 65537 := rfl; simp at this; omega) hr) rfl (fun v26 w HF => ?_)))
 obtain ⟨V2, sc, rfl, hc, hRS⟩ := HF
 replace hs := hs.frame hc
 refine aJ (dR 0 hs k_81 rfl rfl rfl hRS.flat.2 rfl hRS.flat.1 rfl (fun w hs => aH (aV ⟨_, res1 ⟨_, rfl, aP k_81 (hs.g 0 rfl) hRS.flat.2⟩, ?_⟩)))
 exact ⟨V2, _, _, _, m', rfl, hs.drop hb4, partM_2 hm, hp, hwf', hRS⟩
 refine dP (lp (bI rfl rfl) rfl (dN rfl rfl (aH (bH rfl (fun hc3 => ?_) (fun hc3 => ?_)))))
 have hst : st = 16 + 3 := by omega
 subst hst
 refine dP (dM rfl rfl (aZ ok_84 rfl rfl (c_skipAdditional hG hs.isIn hb (hs.g 1 rfl) (hs.off (k := 1) rfl) hp hwf h2l) rfl (fun v30 w HF => ?_)))
 obtain ⟨cs', k, m', hc, hm, hp, he⟩ := HF
 replace hs := hs.frame1 (k := 1) rfl rfl hc
 have hwf' := wf_passM hwf (by decide : 1 ≤ 4) (by decide)
 rw [hm] at hwf'
 refine aZ ok_36 rfl rfl (c_faultOf hG hs.isIn he) rfl (fun v31 w HF => ?_)
 obtain ⟨rfl, hc⟩ := HF
 replace hs := hs.frame hc
 refine lp (bL rfl (by rfl) (bu_81_0 _)) rfl (aJ (dR 0 hs k_81 rfl rfl rfl (by simp) (by simp) (aG rfl) rfl (fun w hs => aH (aV ⟨_, res1 ⟨_, rfl, aP k_81 (hs.g 0 rfl) rfl⟩, ?_⟩))))
 exact ⟨V, _, _, _, m', rfl, hs.drop hb4, partM_3 hm, hp, hwf', RSeen.fault V k⟩
 have hst : st = 16 + 4 := by omega
 subst hst
 refine aW (dP (dM rfl rfl (aZ ok_85 rfl rfl (c_skipAllAdditionals hG hs.isIn hb (hs.g 1 rfl) (hs.off (k := 1) rfl) hp hwf h2l) rfl (fun v34 w HF => ?_))))
 obtain ⟨cs', k, m', hc, hm, hp, hwf', he⟩ := HF
 replace hs := hs.frame1 (k := 1) rfl rfl hc
 refine aZ ok_36 rfl rfl (c_faultOf hG hs.isIn he) rfl (fun v35 w HF => ?_)
 obtain ⟨rfl, hc⟩ := HF
 replace hs := hs.frame hc
 refine lp (bL rfl (by rfl) (bu_81_0 _)) rfl (aJ (dR 0 hs k_81 rfl rfl rfl (by simp) (by simp) (aG rfl) rfl (fun w hs => aH (aV ⟨_, res1 ⟨_, rfl, aP k_81 (hs.g 0 rfl) rfl⟩, ?_⟩))))
 exact ⟨V, _, _, _, m', rfl, hs.drop hb4, partM_4 hm, hp, hwf', RSeen.fault V k⟩
end
end Go.Proofs.YtgpfjlfkaoffeaaGreatDoor

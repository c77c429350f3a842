/- A step of a body. -/
import Derived.Test.YtgpfjlfkaoffeaaGreatDoorP33
import Derived.Test.YtgpfjlfkaoffeaaGreatDoorP20
set_option linter.all false
namespace Go.Proofs.YtgpfjlfkaoffeaaGreatDoor
open Go
section
variable {l : List UInt8} {m m' : PM} {kind : Nat} {ro : Option PRec} {k : EK} {V : Vw} {bcs : List Value}
theorem bodyM_ok (h : bodyM l m kind = (.ok, ro, m')) : ∃ r, body l m.at_ kind m.hlen = some r ∧ ro = some (if kind = 13 then { r with type := m.htype } else r) := by
 unfold bodyM at h
 split at h
 cases h
 split at h
 rename_i r hr; cases h; exact ⟨r, hr, rfl⟩
 cases h
theorem body_any (hwf : WF l m) (hm : bodyM l m kind = (k, ro, m')) (h1 : 1 ≤ kind) (h13 : kind ≤ 13) {t0 : Nat} {r0 : PRec} (h0 : k ≠ .ok → BodyC V kind t0 r0 bcs) (hs0 : Small r0)
  (hr : k = .ok → ∃ r, body l m.at_ kind m.hlen = some r ∧ BodyC V kind m.htype r bcs) : ∃ t r, BodyC V kind t r bcs ∧ Small r ∧ (k = .ok → ro = some (only kind t r)) := by
 by_cases hk : k = .ok
 subst hk
 obtain ⟨r, hb, hB⟩ := hr rfl
 obtain ⟨r', hb', hro⟩ := bodyM_ok hm
 rw [hb] at hb'
 cases hb'
 have := hwf.hl
 exact ⟨_, r, hB, body_small hb (by omega), fun _ => by rw [hro, only_body hb h1 h13]⟩
 exact ⟨t0, r0, h0 hk, hs0, fun h => absurd h hk⟩
end
section
variable {A : Nat → Addr} {V : Vw} {w0 : World} {l : List UInt8} {mv : Value} {bp : Nat} {E : TypeId} {m : PM} {cs : List Value}
theorem c_fromSVCBr {r : PRec} {t : Nat} {bcs : List Value} (hV : V.In w0) (hB : BodyC V 11 t r bcs) (hsm : Small r) :
  CallsV Tryz.prog 108 #[.agg bcs.toArray] w0 fun v w' => ∃ (V' : Vw) (rc : List Value), v = .agg rc.toArray ∧ St ⟨w0, V, V'⟩ w' [] ∧ RRec V' (only 11 t r) rc := by
 refine (c_fromSVCB hV hB hsm).mono ?_
 rintro v w' ⟨V', vp, rfl, hs, hP⟩
 exact ⟨V', _, rfl, hs, _, _, _, rfl, RB.nil V', RTexts.nil V', hP⟩
theorem soa0 : (rep 512 (.int .u8 0) ++ [.int .u32 0, .int .u32 0, .int .u32 0, .int .u32 0, .int .u32 0]) = nmC [] 0 ++ nmC [] 0 ++ [.int .u32 0, .int .u32 0, .int .u32 0, .int .u32 0, .int .u32 0] := by
 have h : (512 : Nat) = 256 + 256 := rfl
 first
  | (rw [← rep256]; done)
  | (rw [← rep256, rep, rep, h, ← List.replicate_append_replicate]; done)
  | (rw [← rep256]; rfl)
set_option maxHeartbeats 4000000 in
theorem c_ibody (hG : Gl A V) (hV : V.In w0) (hb : RB V mv l) (hown : w0.heap[bp]? = some (.cells cs.toArray E (0, 0))) (hvn : V bp = none) (hp : PR l mv m cs) (hwf : WF l m) (h2l : l.length ≤ 4294967296) (kd : Nat) {sv : Int} (hsv : sv = kd) (hk1 : 1 ≤ kd) (hk13 : kd ≤ 13) :
  CallsV Tryz.prog 41 #[.pointer (some ⟨bp, 0, none⟩), .int .i64 sv] w0 fun v w' => ∃ (V' : Vw) (cs' sc : List Value) (k : EK) (ro : Option PRec) (m' : PM), v = .agg sc.toArray ∧ St ⟨w0, V, V'⟩ w' [(bp, .cells cs'.toArray E (0, 0))] ∧ bodyM l m kd = (k, ro, m') ∧ PR l mv m' cs' ∧ WF l m' ∧ RSeen V' (onlyRec k ro) sc := by
 subst hsv
 have hs := St.start1 hV hown (bU _ _) hvn
 refine aT [_, _] Tryz.func41 Tryz.ntmps41 Tryz.results41 rfl rfl (dP (aJ (aX hs z_81 rfl (fun b4 w hb4 he4 hs => aH (aF (dP (dM rfl rfl (aH (bQ (dP (lp (bI rfl rfl) rfl (dN rfl rfl (aH (bH rfl (fun hc0 => ?_) (fun hc0 => ?_)))))))))))))))
 have hkd : kd = 1 := by omega
 subst hkd
 refine dP (dM rfl rfl (aZ ok_86 rfl rfl (c_bodyA hG hs.isIn hb (hs.g 1 rfl) (hs.off (k := 1) rfl) hp hwf h2l) rfl (fun v36 w HF => ?_)))
 obtain ⟨V1, cs', bcs, e, k, ro, m', rfl, hc, hm, hp, he, hcl, hcf, hr, hzr⟩ := HF
 have hle1 := hc.view
 replace hs := hs.frame1 (k := 1) rfl rfl hc
 have hwf' := wf_bodyM hwf 1
 rw [hm] at hwf'
 obtain ⟨t, r, hBC, hsm, hro⟩ := body_any (V := V1) (bcs := bcs) (t0 := 0) (r0 := { data := [0, 0, 0, 0] }) hwf hm (by decide) (by decide) (fun h => by rw [hzr h]; exact ⟨rfl, rfl⟩) ⟨by decide, by decide, by decide, fun _ h => by cases h⟩ hr
 refine dM rfl rfl (dO rfl rfl rfl (dO rfl rfl rfl (aJ (aX hs z_157 rfl (fun b5 w hb5 he5 hs => aJ (dR 0 hs k_157 rfl rfl rfl hcl (by simp) hcf rfl (fun w hs => dN rfl rfl (aH (dP (lp (aO rfl (aP k_157 (hs.g 0 rfl) hcl)) rfl (aZ ok_88 rfl rfl (c_fromA hs.isIn hBC hsm) rfl (fun v40 w HF => ?_))))))))))))
 obtain ⟨V2, rc, rfl, hc, hRR⟩ := HF
 replace hs := hs.frame hc
 refine dM rfl rfl (aZ ok_87 rfl rfl (c_seenBody (ro := ro) (hG.mono hs.view) hs.isIn he hRR.flat.2 hRR.flat.1 (fun hk => ⟨_, hro hk, hRR⟩)) rfl (fun v42 w HF => ?_))
 obtain ⟨V3, sc, rfl, hc, hRS⟩ := HF
 replace hs := hs.frame hc
 refine aJ (dR 1 hs k_81 rfl rfl rfl hRS.flat.2 rfl hRS.flat.1 rfl (fun w hs => aH (aV ⟨_, res1 ⟨_, rfl, aP k_81 (hs.g 1 rfl) hRS.flat.2⟩, ?_⟩)))
 exact ⟨V3, _, _, k, ro, m', rfl, (hs.drop hb5).drop hb4, hm, hp, hwf', hRS⟩
 refine dP (lp (bI rfl rfl) rfl (dN rfl rfl (aH (bH rfl (fun hc1 => ?_) (fun hc1 => ?_)))))
 have hkd : kd = 2 := by omega
 subst hkd
 refine dP (dM rfl rfl (aZ ok_89 rfl rfl (c_bodyNS hG hs.isIn hb (hs.g 1 rfl) (hs.off (k := 1) rfl) hp hwf h2l) rfl (fun v47 w HF => ?_)))
 obtain ⟨V1, cs', bcs, e, k, ro, m', rfl, hc, hm, hp, he, hcl, hcf, hr, hzr⟩ := HF
 have hle1 := hc.view
 replace hs := hs.frame1 (k := 1) rfl rfl hc
 have hwf' := wf_bodyM hwf 2
 rw [hm] at hwf'
 obtain ⟨t, r, hBC, hsm, hro⟩ := body_any (V := V1) (bcs := bcs) (t0 := 0) (r0 := {}) hwf hm (by decide) (by decide) (fun h => by rw [hzr h]; exact ⟨rep256, by decide⟩) ⟨by decide, by decide, by decide, fun _ h => by cases h⟩ hr
 refine dM rfl rfl (dO rfl rfl rfl (dO rfl rfl rfl (aJ (aX hs z_163 rfl (fun b7 w hb7 he7 hs => aJ (dR 0 hs k_163 rfl rfl rfl hcl (by simp) hcf rfl (fun w hs => dN rfl rfl (aH (dP (lp (aO rfl (aP k_163 (hs.g 0 rfl) hcl)) rfl (aZ ok_90 rfl rfl (c_fromNS hs.isIn hBC hsm) rfl (fun v51 w HF => ?_))))))))))))
 obtain ⟨V2, rc, rfl, hc, hRR⟩ := HF
 replace hs := hs.frame hc
 refine dM rfl rfl (aZ ok_87 rfl rfl (c_seenBody (ro := ro) (hG.mono hs.view) hs.isIn he hRR.flat.2 hRR.flat.1 (fun hk => ⟨_, hro hk, hRR⟩)) rfl (fun v53 w HF => ?_))
 obtain ⟨V3, sc, rfl, hc, hRS⟩ := HF
 replace hs := hs.frame hc
 refine aJ (dR 1 hs k_81 rfl rfl rfl hRS.flat.2 rfl hRS.flat.1 rfl (fun w hs => aH (aV ⟨_, res1 ⟨_, rfl, aP k_81 (hs.g 1 rfl) hRS.flat.2⟩, ?_⟩)))
 exact ⟨V3, _, _, k, ro, m', rfl, (hs.drop hb7).drop hb4, hm, hp, hwf', hRS⟩
 refine dP (lp (bI rfl rfl) rfl (dN rfl rfl (aH (bH rfl (fun hc2 => ?_) (fun hc2 => ?_)))))
 have hkd : kd = 3 := by omega
 subst hkd
 refine dP (dM rfl rfl (aZ ok_91 rfl rfl (c_bodyCNAME hG hs.isIn hb (hs.g 1 rfl) (hs.off (k := 1) rfl) hp hwf h2l) rfl (fun v58 w HF => ?_)))
 obtain ⟨V1, cs', bcs, e, k, ro, m', rfl, hc, hm, hp, he, hcl, hcf, hr, hzr⟩ := HF
 have hle1 := hc.view
 replace hs := hs.frame1 (k := 1) rfl rfl hc
 have hwf' := wf_bodyM hwf 3
 rw [hm] at hwf'
 obtain ⟨t, r, hBC, hsm, hro⟩ := body_any (V := V1) (bcs := bcs) (t0 := 0) (r0 := {}) hwf hm (by decide) (by decide) (fun h => by rw [hzr h]; exact ⟨rep256, by decide⟩) ⟨by decide, by decide, by decide, fun _ h => by cases h⟩ hr
 refine dM rfl rfl (dO rfl rfl rfl (dO rfl rfl rfl (aJ (aX hs z_168 rfl (fun b9 w hb9 he9 hs => aJ (dR 0 hs k_168 rfl rfl rfl hcl (by simp) hcf rfl (fun w hs => dN rfl rfl (aH (dP (lp (aO rfl (aP k_168 (hs.g 0 rfl) hcl)) rfl (aZ ok_92 rfl rfl (c_fromCNAME hs.isIn hBC hsm) rfl (fun v62 w HF => ?_))))))))))))
 obtain ⟨V2, rc, rfl, hc, hRR⟩ := HF
 replace hs := hs.frame hc
 refine dM rfl rfl (aZ ok_87 rfl rfl (c_seenBody (ro := ro) (hG.mono hs.view) hs.isIn he hRR.flat.2 hRR.flat.1 (fun hk => ⟨_, hro hk, hRR⟩)) rfl (fun v64 w HF => ?_))
 obtain ⟨V3, sc, rfl, hc, hRS⟩ := HF
 replace hs := hs.frame hc
 refine aJ (dR 1 hs k_81 rfl rfl rfl hRS.flat.2 rfl hRS.flat.1 rfl (fun w hs => aH (aV ⟨_, res1 ⟨_, rfl, aP k_81 (hs.g 1 rfl) hRS.flat.2⟩, ?_⟩)))
 exact ⟨V3, _, _, k, ro, m', rfl, (hs.drop hb9).drop hb4, hm, hp, hwf', hRS⟩
 refine dP (lp (bI rfl rfl) rfl (dN rfl rfl (aH (bH rfl (fun hc3 => ?_) (fun hc3 => ?_)))))
 have hkd : kd = 4 := by omega
 subst hkd
 refine dP (dM rfl rfl (aZ ok_93 rfl rfl (c_bodySOA hG hs.isIn hb (hs.g 1 rfl) (hs.off (k := 1) rfl) hp hwf h2l) rfl (fun v69 w HF => ?_)))
 obtain ⟨V1, cs', bcs, e, k, ro, m', rfl, hc, hm, hp, he, hcl, hcf, hr, hzr⟩ := HF
 have hle1 := hc.view
 replace hs := hs.frame1 (k := 1) rfl rfl hc
 have hwf' := wf_bodyM hwf 4
 rw [hm] at hwf'
 obtain ⟨t, r, hBC, hsm, hro⟩ := body_any (V := V1) (bcs := bcs) (t0 := 0) (r0 := {}) hwf hm (by decide) (by decide) (fun h => by rw [hzr h]; exact ⟨soa0, by decide, by decide⟩) ⟨by decide, by decide, by decide, fun _ h => by cases h⟩ hr
 refine dM rfl rfl (dO rfl rfl rfl (dO rfl rfl rfl (aJ (aX hs z_173 rfl (fun b11 w hb11 he11 hs => aJ (dR 0 hs k_173 rfl rfl rfl hcl (by simp) hcf rfl (fun w hs => dN rfl rfl (aH (dP (lp (aO rfl (aP k_173 (hs.g 0 rfl) hcl)) rfl (aZ ok_94 rfl rfl (c_fromSOA hs.isIn hBC hsm) rfl (fun v73 w HF => ?_))))))))))))
 obtain ⟨V2, rc, rfl, hc, hRR⟩ := HF
 replace hs := hs.frame hc
 refine dM rfl rfl (aZ ok_87 rfl rfl (c_seenBody (ro := ro) (hG.mono hs.view) hs.isIn he hRR.flat.2 hRR.flat.1 (fun hk => ⟨_, hro hk, hRR⟩)) rfl (fun v75 w HF => ?_))
 obtain ⟨V3, sc, rfl, hc, hRS⟩ := HF
 replace hs := hs.frame hc
 refine aJ (dR 1 hs k_81 rfl rfl rfl hRS.flat.2 rfl hRS.flat.1 rfl (fun w hs => aH (aV ⟨_, res1 ⟨_, rfl, aP k_81 (hs.g 1 rfl) hRS.flat.2⟩, ?_⟩)))
 exact ⟨V3, _, _, k, ro, m', rfl, (hs.drop hb11).drop hb4, hm, hp, hwf', hRS⟩
 refine dP (lp (bI rfl rfl) rfl (dN rfl rfl (aH (bH rfl (fun hc4 => ?_) (fun hc4 => ?_)))))
 have hkd : kd = 5 := by omega
 subst hkd
 refine dP (dM rfl rfl (aZ ok_95 rfl rfl (c_bodyPTR hG hs.isIn hb (hs.g 1 rfl) (hs.off (k := 1) rfl) hp hwf h2l) rfl (fun v80 w HF => ?_)))
 obtain ⟨V1, cs', bcs, e, k, ro, m', rfl, hc, hm, hp, he, hcl, hcf, hr, hzr⟩ := HF
 have hle1 := hc.view
 replace hs := hs.frame1 (k := 1) rfl rfl hc
 have hwf' := wf_bodyM hwf 5
 rw [hm] at hwf'
 obtain ⟨t, r, hBC, hsm, hro⟩ := body_any (V := V1) (bcs := bcs) (t0 := 0) (r0 := {}) hwf hm (by decide) (by decide) (fun h => by rw [hzr h]; exact ⟨rep256, by decide⟩) ⟨by decide, by decide, by decide, fun _ h => by cases h⟩ hr
 refine dM rfl rfl (dO rfl rfl rfl (dO rfl rfl rfl (aJ (aX hs z_178 rfl (fun b13 w hb13 he13 hs => aJ (dR 0 hs k_178 rfl rfl rfl hcl (by simp) hcf rfl (fun w hs => dN rfl rfl (aH (dP (lp (aO rfl (aP k_178 (hs.g 0 rfl) hcl)) rfl (aZ ok_96 rfl rfl (c_fromPTR hs.isIn hBC hsm) rfl (fun v84 w HF => ?_))))))))))))
 obtain ⟨V2, rc, rfl, hc, hRR⟩ := HF
 replace hs := hs.frame hc
 refine dM rfl rfl (aZ ok_87 rfl rfl (c_seenBody (ro := ro) (hG.mono hs.view) hs.isIn he hRR.flat.2 hRR.flat.1 (fun hk => ⟨_, hro hk, hRR⟩)) rfl (fun v86 w HF => ?_))
 obtain ⟨V3, sc, rfl, hc, hRS⟩ := HF
 replace hs := hs.frame hc
 refine aJ (dR 1 hs k_81 rfl rfl rfl hRS.flat.2 rfl hRS.flat.1 rfl (fun w hs => aH (aV ⟨_, res1 ⟨_, rfl, aP k_81 (hs.g 1 rfl) hRS.flat.2⟩, ?_⟩)))
 exact ⟨V3, _, _, k, ro, m', rfl, (hs.drop hb13).drop hb4, hm, hp, hwf', hRS⟩
 refine dP (lp (bI rfl rfl) rfl (dN rfl rfl (aH (bH rfl (fun hc5 => ?_) (fun hc5 => ?_)))))
 have hkd : kd = 6 := by omega
 subst hkd
 refine dP (dM rfl rfl (aZ ok_97 rfl rfl (c_bodyMX hG hs.isIn hb (hs.g 1 rfl) (hs.off (k := 1) rfl) hp hwf h2l) rfl (fun v91 w HF => ?_)))
 obtain ⟨V1, cs', bcs, e, k, ro, m', rfl, hc, hm, hp, he, hcl, hcf, hr, hzr⟩ := HF
 have hle1 := hc.view
 replace hs := hs.frame1 (k := 1) rfl rfl hc
 have hwf' := wf_bodyM hwf 6
 rw [hm] at hwf'
 obtain ⟨t, r, hBC, hsm, hro⟩ := body_any (V := V1) (bcs := bcs) (t0 := 0) (r0 := {}) hwf hm (by decide) (by decide) (fun h => by rw [hzr h]; exact ⟨by rw [rep256]; rfl, by decide, by decide⟩) ⟨by decide, by decide, by decide, fun _ h => by cases h⟩ hr
 refine dM rfl rfl (dO rfl rfl rfl (dO rfl rfl rfl (aJ (aX hs z_183 rfl (fun b15 w hb15 he15 hs => aJ (dR 0 hs k_183 rfl rfl rfl hcl (by simp) hcf rfl (fun w hs => dN rfl rfl (aH (dP (lp (aO rfl (aP k_183 (hs.g 0 rfl) hcl)) rfl (aZ ok_98 rfl rfl (c_fromMX hs.isIn hBC hsm) rfl (fun v95 w HF => ?_))))))))))))
 obtain ⟨V2, rc, rfl, hc, hRR⟩ := HF
 replace hs := hs.frame hc
 refine dM rfl rfl (aZ ok_87 rfl rfl (c_seenBody (ro := ro) (hG.mono hs.view) hs.isIn he hRR.flat.2 hRR.flat.1 (fun hk => ⟨_, hro hk, hRR⟩)) rfl (fun v97 w HF => ?_))
 obtain ⟨V3, sc, rfl, hc, hRS⟩ := HF
 replace hs := hs.frame hc
 refine aJ (dR 1 hs k_81 rfl rfl rfl hRS.flat.2 rfl hRS.flat.1 rfl (fun w hs => aH (aV ⟨_, res1 ⟨_, rfl, aP k_81 (hs.g 1 rfl) hRS.flat.2⟩, ?_⟩)))
 exact ⟨V3, _, _, k, ro, m', rfl, (hs.drop hb15).drop hb4, hm, hp, hwf', hRS⟩
 refine dP (lp (bI rfl rfl) rfl (dN rfl rfl (aH (bH rfl (fun hc6 => ?_) (fun hc6 => ?_)))))
 have hkd : kd = 7 := by omega
 subst hkd
 refine dP (dM rfl rfl (aZ ok_99 rfl rfl (c_bodyTXT hG hs.isIn hb (hs.g 1 rfl) (hs.off (k := 1) rfl) hp hwf h2l) rfl (fun v102 w HF => ?_)))
 obtain ⟨V1, cs', bcs, e, k, ro, m', rfl, hc, hm, hp, he, hcl, hcf, hr, hzr⟩ := HF
 have hle1 := hc.view
 replace hs := hs.frame1 (k := 1) rfl rfl hc
 have hwf' := wf_bodyM hwf 7
 rw [hm] at hwf'
 obtain ⟨t, r, hBC, hsm, hro⟩ := body_any (V := V1) (bcs := bcs) (t0 := 0) (r0 := {}) hwf hm (by decide) (by decide) (fun h => by rw [hzr h]; exact ⟨_, rfl, RTexts.nil V1⟩) ⟨by decide, by decide, by decide, fun _ h => by cases h⟩ hr
 refine dM rfl rfl (dO rfl rfl rfl (dO rfl rfl rfl (aJ (aX hs z_188 rfl (fun b17 w hb17 he17 hs => aJ (dR 0 hs k_188 rfl rfl rfl hcl (by simp) hcf rfl (fun w hs => dN rfl rfl (aH (dP (lp (aO rfl (aP k_188 (hs.g 0 rfl) hcl)) rfl (aZ ok_100 rfl rfl (c_fromTXT hs.isIn hBC hsm) rfl (fun v106 w HF => ?_))))))))))))
 obtain ⟨V2, rc, rfl, hc, hRR⟩ := HF
 replace hs := hs.frame hc
 refine dM rfl rfl (aZ ok_87 rfl rfl (c_seenBody (ro := ro) (hG.mono hs.view) hs.isIn he hRR.flat.2 hRR.flat.1 (fun hk => ⟨_, hro hk, hRR⟩)) rfl (fun v108 w HF => ?_))
 obtain ⟨V3, sc, rfl, hc, hRS⟩ := HF
 replace hs := hs.frame hc
 refine aJ (dR 1 hs k_81 rfl rfl rfl hRS.flat.2 rfl hRS.flat.1 rfl (fun w hs => aH (aV ⟨_, res1 ⟨_, rfl, aP k_81 (hs.g 1 rfl) hRS.flat.2⟩, ?_⟩)))
 exact ⟨V3, _, _, k, ro, m', rfl, (hs.drop hb17).drop hb4, hm, hp, hwf', hRS⟩
 refine dP (lp (bI rfl rfl) rfl (dN rfl rfl (aH (bH rfl (fun hc7 => ?_) (fun hc7 => ?_)))))
 have hkd : kd = 8 := by omega
 subst hkd
 refine dP (dM rfl rfl (aZ ok_101 rfl rfl (c_bodyAAAA hG hs.isIn hb (hs.g 1 rfl) (hs.off (k := 1) rfl) hp hwf h2l) rfl (fun v113 w HF => ?_)))
 obtain ⟨V1, cs', bcs, e, k, ro, m', rfl, hc, hm, hp, he, hcl, hcf, hr, hzr⟩ := HF
 have hle1 := hc.view
 replace hs := hs.frame1 (k := 1) rfl rfl hc
 have hwf' := wf_bodyM hwf 8
 rw [hm] at hwf'
 obtain ⟨t, r, hBC, hsm, hro⟩ := body_any (V := V1) (bcs := bcs) (t0 := 0) (r0 := { data := [0, 0, 0, 0, 0, 0, 0, 0, 0, 0, 0, 0, 0, 0, 0, 0] }) hwf hm (by decide) (by decide) (fun h => by rw [hzr h]; exact ⟨rfl, rfl⟩) ⟨by decide, by decide, by decide, fun _ h => by cases h⟩ hr
 refine dM rfl rfl (dO rfl rfl rfl (dO rfl rfl rfl (aJ (aX hs z_194 rfl (fun b19 w hb19 he19 hs => aJ (dR 0 hs k_194 rfl rfl rfl hcl (by simp) hcf rfl (fun w hs => dN rfl rfl (aH (dP (lp (aO rfl (aP k_194 (hs.g 0 rfl) hcl)) rfl (aZ ok_102 rfl rfl (c_fromAAAA hs.isIn hBC hsm) rfl (fun v117 w HF => ?_))))))))))))
 obtain ⟨V2, rc, rfl, hc, hRR⟩ := HF
 replace hs := hs.frame hc
 refine dM rfl rfl (aZ ok_87 rfl rfl (c_seenBody (ro := ro) (hG.mono hs.view) hs.isIn he hRR.flat.2 hRR.flat.1 (fun hk => ⟨_, hro hk, hRR⟩)) rfl (fun v119 w HF => ?_))
 obtain ⟨V3, sc, rfl, hc, hRS⟩ := HF
 replace hs := hs.frame hc
 refine aJ (dR 1 hs k_81 rfl rfl rfl hRS.flat.2 rfl hRS.flat.1 rfl (fun w hs => aH (aV ⟨_, res1 ⟨_, rfl, aP k_81 (hs.g 1 rfl) hRS.flat.2⟩, ?_⟩)))
 exact ⟨V3, _, _, k, ro, m', rfl, (hs.drop hb19).drop hb4, hm, hp, hwf', hRS⟩
 refine dP (lp (bI rfl rfl) rfl (dN rfl rfl (aH (bH rfl (fun hc8 => ?_) (fun hc8 => ?_)))))
 have hkd : kd = 9 := by omega
 subst hkd
 refine dP (dM rfl rfl (aZ ok_103 rfl rfl (c_bodySRV hG hs.isIn hb (hs.g 1 rfl) (hs.off (k := 1) rfl) hp hwf h2l) rfl (fun v124 w HF => ?_)))
 obtain ⟨V1, cs', bcs, e, k, ro, m', rfl, hc, hm, hp, he, hcl, hcf, hr, hzr⟩ := HF
 have hle1 := hc.view
 replace hs := hs.frame1 (k := 1) rfl rfl hc
 have hwf' := wf_bodyM hwf 9
 rw [hm] at hwf'
 obtain ⟨t, r, hBC, hsm, hro⟩ := body_any (V := V1) (bcs := bcs) (t0 := 0) (r0 := {}) hwf hm (by decide) (by decide) (fun h => by rw [hzr h]; exact ⟨by rw [rep256]; rfl, by decide, by decide, by decide, by decide⟩) ⟨by decide, by decide, by decide, fun _ h => by cases h⟩ hr
 refine dM rfl rfl (dO rfl rfl rfl (dO rfl rfl rfl (aJ (aX hs z_199 rfl (fun b21 w hb21 he21 hs => aJ (dR 0 hs k_199 rfl rfl rfl hcl (by simp) hcf rfl (fun w hs => dN rfl rfl (aH (dP (lp (aO rfl (aP k_199 (hs.g 0 rfl) hcl)) rfl (aZ ok_104 rfl rfl (c_fromSRV hs.isIn hBC hsm) rfl (fun v128 w HF => ?_))))))))))))
 obtain ⟨V2, rc, rfl, hc, hRR⟩ := HF
 replace hs := hs.frame hc
 refine dM rfl rfl (aZ ok_87 rfl rfl (c_seenBody (ro := ro) (hG.mono hs.view) hs.isIn he hRR.flat.2 hRR.flat.1 (fun hk => ⟨_, hro hk, hRR⟩)) rfl (fun v130 w HF => ?_))
 obtain ⟨V3, sc, rfl, hc, hRS⟩ := HF
 replace hs := hs.frame hc
 refine aJ (dR 1 hs k_81 rfl rfl rfl hRS.flat.2 rfl hRS.flat.1 rfl (fun w hs => aH (aV ⟨_, res1 ⟨_, rfl, aP k_81 (hs.g 1 rfl) hRS.flat.2⟩, ?_⟩)))
 exact ⟨V3, _, _, k, ro, m', rfl, (hs.drop hb21).drop hb4, hm, hp, hwf', hRS⟩
 refine dP (lp (bI rfl rfl) rfl (dN rfl rfl (aH (bH rfl (fun hc9 => ?_) (fun hc9 => ?_)))))
 have hkd : kd = 10 := by omega
 subst hkd
 refine dP (dM rfl rfl (aZ ok_105 rfl rfl (c_bodyOPT hG hs.isIn hb (hs.g 1 rfl) (hs.off (k := 1) rfl) hp hwf h2l) rfl (fun v135 w HF => ?_)))
 obtain ⟨V1, cs', bcs, e, k, ro, m', rfl, hc, hm, hp, he, hcl, hcf, hr, hzr⟩ := HF
 have hle1 := hc.view
 replace hs := hs.frame1 (k := 1) rfl rfl hc
 have hwf' := wf_bodyM hwf 10
 rw [hm] at hwf'
 obtain ⟨t, r, hBC, hsm, hro⟩ := body_any (V := V1) (bcs := bcs) (t0 := 0) (r0 := {}) hwf hm (by decide) (by decide) (fun h => by rw [hzr h]; exact ⟨_, rfl, RPairs.nil V1⟩) ⟨by decide, by decide, by decide, fun _ h => by cases h⟩ hr
 refine dM rfl rfl (dO rfl rfl rfl (dO rfl rfl rfl (aJ (aX hs z_205 rfl (fun b23 w hb23 he23 hs => aJ (dR 0 hs k_205 rfl rfl rfl hcl (by simp) hcf rfl (fun w hs => dN rfl rfl (aH (dP (lp (aO rfl (aP k_205 (hs.g 0 rfl) hcl)) rfl (aZ ok_106 rfl rfl (c_fromOPT hs.isIn hBC hsm) rfl (fun v139 w HF => ?_))))))))))))
 obtain ⟨V2, rc, rfl, hc, hRR⟩ := HF
 replace hs := hs.frame hc
 refine dM rfl rfl (aZ ok_87 rfl rfl (c_seenBody (ro := ro) (hG.mono hs.view) hs.isIn he hRR.flat.2 hRR.flat.1 (fun hk => ⟨_, hro hk, hRR⟩)) rfl (fun v141 w HF => ?_))
 obtain ⟨V3, sc, rfl, hc, hRS⟩ := HF
 replace hs := hs.frame hc
 refine aJ (dR 1 hs k_81 rfl rfl rfl hRS.flat.2 rfl hRS.flat.1 rfl (fun w hs => aH (aV ⟨_, res1 ⟨_, rfl, aP k_81 (hs.g 1 rfl) hRS.flat.2⟩, ?_⟩)))
 exact ⟨V3, _, _, k, ro, m', rfl, (hs.drop hb23).drop hb4, hm, hp, hwf', hRS⟩
 refine dP (lp (bI rfl rfl) rfl (dN rfl rfl (aH (bH rfl (fun hc10 => ?_) (fun hc10 => ?_)))))
 have hkd : kd = 11 := by omega
 subst hkd
 refine dP (dM rfl rfl (aZ ok_107 rfl rfl (c_bodySVCB hG hs.isIn hb (hs.g 1 rfl) (hs.off (k := 1) rfl) hp hwf h2l) rfl (fun v146 w HF => ?_)))
 obtain ⟨V1, cs', bcs, e, k, ro, m', rfl, hc, hm, hp, he, hcl, hcf, hr, hzr⟩ := HF
 have hle1 := hc.view
 replace hs := hs.frame1 (k := 1) rfl rfl hc
 have hwf' := wf_bodyM hwf 11
 rw [hm] at hwf'
 obtain ⟨t, r, hBC, hsm, hro⟩ := body_any (V := V1) (bcs := bcs) (t0 := 0) (r0 := {}) hwf hm (by decide) (by decide) (fun h => by rw [hzr h]; exact ⟨_, by rw [rep256]; rfl, by decide, by decide, RPairs.nil V1⟩) ⟨by decide, by decide, by decide, fun _ h => by cases h⟩ hr
 refine dM rfl rfl (dO rfl rfl rfl (dO rfl rfl rfl (aJ (aX hs z_211 rfl (fun b25 w hb25 he25 hs => aJ (dR 0 hs k_211 rfl rfl rfl hcl (by simp) hcf rfl (fun w hs => dN rfl rfl (aH (dP (lp (aO rfl (aP k_211 (hs.g 0 rfl) hcl)) rfl (aZ ok_108 rfl rfl (c_fromSVCBr hs.isIn hBC hsm) rfl (fun v150 w HF => ?_))))))))))))
 obtain ⟨V2, rc, rfl, hc, hRR⟩ := HF
 replace hs := hs.frame hc
 refine dM rfl rfl (aZ ok_87 rfl rfl (c_seenBody (ro := ro) (hG.mono hs.view) hs.isIn he hRR.flat.2 hRR.flat.1 (fun hk => ⟨_, hro hk, hRR⟩)) rfl (fun v152 w HF => ?_))
 obtain ⟨V3, sc, rfl, hc, hRS⟩ := HF
 replace hs := hs.frame hc
 refine aJ (dR 1 hs k_81 rfl rfl rfl hRS.flat.2 rfl hRS.flat.1 rfl (fun w hs => aH (aV ⟨_, res1 ⟨_, rfl, aP k_81 (hs.g 1 rfl) hRS.flat.2⟩, ?_⟩)))
 exact ⟨V3, _, _, k, ro, m', rfl, (hs.drop hb25).drop hb4, hm, hp, hwf', hRS⟩
 refine dP (lp (bI rfl rfl) rfl (dN rfl rfl (aH (bH rfl (fun hc11 => ?_) (fun hc11 => ?_)))))
 have hkd : kd = 12 := by omega
 subst hkd
 refine dP (dM rfl rfl (aZ ok_109 rfl rfl (c_bodyHTTPS hG hs.isIn hb (hs.g 1 rfl) (hs.off (k := 1) rfl) hp hwf h2l) rfl (fun v157 w HF => ?_)))
 obtain ⟨V1, cs', bcs, e, k, ro, m', rfl, hc, hm, hp, he, hcl, hcf, hr, hzr⟩ := HF
 have hle1 := hc.view
 replace hs := hs.frame1 (k := 1) rfl rfl hc
 have hwf' := wf_bodyM hwf 12
 rw [hm] at hwf'
 obtain ⟨t, r, hBC, hsm, hro⟩ := body_any (V := V1) (bcs := bcs) (t0 := 0) (r0 := {}) hwf hm (by decide) (by decide) (fun h => by rw [hzr h]; exact ⟨_, by rw [rep256]; rfl, by decide, by decide, RPairs.nil V1⟩) ⟨by decide, by decide, by decide, fun _ h => by cases h⟩ hr
 refine dM rfl rfl (dO rfl rfl rfl (dO rfl rfl rfl (aJ (aX hs z_216 rfl (fun b27 w hb27 he27 hs => aJ (dR 0 hs k_216 rfl rfl rfl hcl (by simp) hcf rfl (fun w hs => dN rfl rfl (aH (dP (lp (aO rfl (aP k_216 (hs.g 0 rfl) hcl)) rfl (aZ ok_110 rfl rfl (c_fromHTTPS hs.isIn hBC hsm) rfl (fun v161 w HF => ?_))))))))))))
 obtain ⟨V2, rc, rfl, hc, hRR⟩ := HF
 replace hs := hs.frame hc
 refine dM rfl rfl (aZ ok_87 rfl rfl (c_seenBody (ro := ro) (hG.mono hs.view) hs.isIn he hRR.flat.2 hRR.flat.1 (fun hk => ⟨_, hro hk, hRR⟩)) rfl (fun v163 w HF => ?_))
 obtain ⟨V3, sc, rfl, hc, hRS⟩ := HF
 replace hs := hs.frame hc
 refine aJ (dR 1 hs k_81 rfl rfl rfl hRS.flat.2 rfl hRS.flat.1 rfl (fun w hs => aH (aV ⟨_, res1 ⟨_, rfl, aP k_81 (hs.g 1 rfl) hRS.flat.2⟩, ?_⟩)))
 exact ⟨V3, _, _, k, ro, m', rfl, (hs.drop hb27).drop hb4, hm, hp, hwf', hRS⟩
 refine dP (lp (bI rfl rfl) rfl (dN rfl rfl (aH (bH rfl (fun hc12 => ?_) (fun hc12 => ?_)))))
 have hkd : kd = 13 := by omega
 subst hkd
 refine dP (dM rfl rfl (aZ ok_111 rfl rfl (c_bodyUnknown hG hs.isIn hb (hs.g 1 rfl) (hs.off (k := 1) rfl) hp hwf h2l) rfl (fun v168 w HF => ?_)))
 obtain ⟨V1, cs', bcs, e, k, ro, m', rfl, hc, hm, hp, he, hcl, hcf, hr, hzr⟩ := HF
 have hle1 := hc.view
 replace hs := hs.frame1 (k := 1) rfl rfl hc
 have hwf' := wf_bodyM hwf 13
 rw [hm] at hwf'
 obtain ⟨t, r, hBC, hsm, hro⟩ := body_any (V := V1) (bcs := bcs) (t0 := 0) (r0 := {}) hwf hm (by decide) (by decide) (fun h => by rw [hzr h]; exact ⟨_, rfl, RB.nil V1⟩) ⟨by decide, by decide, by decide, fun _ h => by cases h⟩ hr
 refine dM rfl rfl (dO rfl rfl rfl (dO rfl rfl rfl (aJ (aX hs z_221 rfl (fun b29 w hb29 he29 hs => aJ (dR 0 hs k_221 rfl rfl rfl hcl (by simp) hcf rfl (fun w hs => dN rfl rfl (aH (dP (lp (aO rfl (aP k_221 (hs.g 0 rfl) hcl)) rfl (aZ ok_112 rfl rfl (c_fromUnknown hs.isIn hBC hsm) rfl (fun v172 w HF => ?_))))))))))))
 obtain ⟨V2, rc, rfl, hc, hRR⟩ := HF
 replace hs := hs.frame hc
 refine dM rfl rfl (aZ ok_87 rfl rfl (c_seenBody (ro := ro) (hG.mono hs.view) hs.isIn he hRR.flat.2 hRR.flat.1 (fun hk => ⟨_, hro hk, hRR⟩)) rfl (fun v174 w HF => ?_))
 obtain ⟨V3, sc, rfl, hc, hRS⟩ := HF
 replace hs := hs.frame hc
 refine aJ (dR 1 hs k_81 rfl rfl rfl hRS.flat.2 rfl hRS.flat.1 rfl (fun w hs => aH (aV ⟨_, res1 ⟨_, rfl, aP k_81 (hs.g 1 rfl) hRS.flat.2⟩, ?_⟩)))
 exact ⟨V3, _, _, k, ro, m', rfl, (hs.drop hb29).drop hb4, hm, hp, hwf', hRS⟩
 exact absurd hk13 (by omega)
end
end Go.Proofs.YtgpfjlfkaoffeaaGreatDoor

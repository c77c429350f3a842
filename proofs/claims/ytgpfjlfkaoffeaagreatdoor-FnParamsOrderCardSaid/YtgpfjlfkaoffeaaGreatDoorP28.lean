/- The parser: bodies behind a header. -/
import Derived.Test.YtgpfjlfkaoffeaaGreatDoorP27
set_option linter.all false
namespace Go.Proofs.YtgpfjlfkaoffeaaGreatDoor
open Go
theorem kind_type {t : Nat} : (t = 1 ↔ kindOfType t = 1) ∧ (t = 2 ↔ kindOfType t = 2) ∧ (t = 5 ↔ kindOfType t = 3) ∧ (t = 6 ↔ kindOfType t = 4) ∧ (t = 12 ↔ kindOfType t = 5) ∧ (t = 15 ↔ kindOfType t = 6) ∧ (t = 16 ↔ kindOfType t = 7) ∧
  (t = 28 ↔ kindOfType t = 8) ∧ (t = 33 ↔ kindOfType t = 9) ∧ (t = 41 ↔ kindOfType t = 10) ∧ (t = 64 ↔ kindOfType t = 11) ∧ (t = 65 ↔ kindOfType t = 12) := by
 unfold kindOfType
 repeat' split
 all_goals omega
section
variable {l : List UInt8} {m : PM} {kind : Nat} {r : PRec}
theorem bodyM_early (h : m.valid = false ∨ (kind ≠ 13 ∧ kindOfType m.htype ≠ kind)) : bodyM l m kind = (.early, none, m) := by unfold bodyM; rw [if_pos h]
theorem dE (h : ¬ (m.valid = false ∨ (kind ≠ 13 ∧ kindOfType m.htype ≠ kind))) (hb : body l m.at_ kind m.hlen = none) : bodyM l m kind = (.other, none, m) := by unfold bodyM; rw [if_neg h, hb]
theorem dD (h : ¬ (m.valid = false ∨ (kind ≠ 13 ∧ kindOfType m.htype ≠ kind))) (hb : body l m.at_ kind m.hlen = some r) :
  bodyM l m kind = (.ok, some (if kind = 13 then { r with type := m.htype } else r), { m with at_ := m.at_ + m.hlen, valid := false, index := m.index + 1 }) := by unfold bodyM; rw [if_neg h, hb]
end
section
variable {A : Nat → Addr} {V : Vw} {w0 : World} {l : List UInt8} {mv : Value} {bp : Nat} {E : TypeId} {m : PM} {cs : List Value}
set_option maxHeartbeats 1000000 in
theorem c_bodyA (hG : Gl A V) (hV : V.In w0) (hb : RB V mv l) (hown : w0.heap[bp]? = some (.cells cs.toArray E (0, 0))) (hvn : V bp = none) (hp : PR l mv m cs) (hwf : WF l m) (h2l : l.length ≤ 4294967296) :
  CallsV Tryz.prog 86 #[.pointer (some ⟨bp, 0, none⟩)] w0 fun v w' => ∃ (V' : Vw) (cs' bcs : List Value) (e : Value) (k : EK) (ro : Option PRec) (m' : PM), v = .tuple #[.agg bcs.toArray, e] ∧
   St ⟨w0, V, V'⟩ w' [(bp, .cells cs'.toArray E (0, 0))] ∧ bodyM l m 1 = (k, ro, m') ∧ PR l mv m' cs' ∧ ErrV A e k ∧ bcs.length = 4 ∧ Flat bcs ∧ (k = .ok → ∃ r, body l m.at_ 1 m.hlen = some r ∧ BodyC V' 1 m.htype r bcs) ∧ (k ≠ .ok → bcs = ([.int .u8 0, .int .u8 0, .int .u8 0, .int .u8 0])) := by
 have hp' := hp
 have hat := hwf.at_le
 have hhl := hwf.hl
 obtain ⟨m0, x1, x2, x3, x4, x5, x6, rfl, hm0, hx⟩ := hp'
 have hs := St.start1 hV hown (bU _ _) hvn
 have hkt := @kind_type m.htype
 refine aT [_] Tryz.func86 Tryz.ntmps86 Tryz.results86 rfl rfl (dP (aJ (aX hs z_157 rfl (fun b2 w hb2 he2 hs => ?_))))
 obtain ⟨zz, hzz, hzl, hzf, hs⟩ : ∃ zz : List Value, zz = ([.int .u8 0, .int .u8 0, .int .u8 0, .int .u8 0]) ∧ zz.length = 4 ∧ Flat zz ∧ St ⟨w0, V, V⟩ w [(b2, .cells zz.toArray 157 (0, 0)), (bp, .cells (parC m0 x1 x2 x3 x4 x5 x6 m).toArray E (0, 0))] := ⟨_, rfl, by simp, aG (by decide +kernel), hs⟩
 refine dN rfl rfl (aH (aF (dG (fun ρ w => Sub (upd (upd (upd emp 17 (.bool (decide (m.valid = false ∨ m.htype ≠ 1)))) 2 (.pointer (some ⟨b2, 0, none⟩))) 0 (.pointer (some ⟨bp, 0, none⟩))) ρ ∧ St ⟨w0, V, V⟩ w [(b2, .cells zz.toArray 157 (0, 0)), (bp, .cells (parC m0 x1 x2 x3 x4 x5 x6 m).toArray E (0, 0))]) ?_ ?_)))
 cases hg : m.valid
 have hg : (!m.valid) = true := by rw [hg]; rfl
 refine aB (dM rfl rfl (lp (aN rfl) rfl (lp (aR fo_100_5 rfl) rfl (lp (aO rfl (aQ k_4 (hs.g 1 rfl) rfl)) rfl (lp (cS rfl) rfl (dM rfl rfl (aU rfl rfl hg rfl (aU rfl rfl hg rfl (aU rfl rfl hg rfl (aU rfl rfl hg rfl (aU rfl rfl hg rfl (lp (bO rfl hg rfl) rfl (aH ?_)))))))))))))
 have hval : (true : Bool) = decide ((false : Bool) = false ∨ m.htype ≠ 1) := by symm; apply decide_eq_true; exact .inl rfl
 exact ⟨aL rfl (aL rfl (aL (congrArg (fun t => some (Value.bool t)) hval) (bG _))), hs⟩
 have hg : (!m.valid) = false := by rw [hg]; rfl
 refine aB (dM rfl rfl (lp (aN rfl) rfl (lp (aR fo_100_5 rfl) rfl (lp (aO rfl (aQ k_4 (hs.g 1 rfl) rfl)) rfl (lp (cS rfl) rfl (dM rfl rfl (lg rfl rfl hg (aC rfl) rfl (lg rfl rfl hg (aN rfl) rfl (lg rfl rfl hg (aR fo_100_7 rfl) rfl (lg rfl rfl hg (aO rfl (aQ k_87 (hs.g 1 rfl) rfl)) rfl (lg rfl rfl hg (po_neq rfl rfl) rfl (lp (bW rfl hg rfl) rfl (aH ?_)))))))))))))
 have hval : decide (((m.htype : Nat) : Int) ≠ 1) = decide ((true : Bool) = false ∨ m.htype ≠ 1) := by apply decide_eq_decide.2; simp; omega
 exact ⟨aL rfl (aL rfl (aL (congrArg (fun t => some (Value.bool t)) hval) (bG _))), hs⟩
 · clear hs
   rintro ρ w ⟨hsub, hs⟩
   refine EW.weaken hsub (bH rfl (fun hc0 => ?_) (fun hc0 => ?_))
   refine aF (bV hs [1] mixed (fun w hs => dI 0 rfl (fun w => (bM (vs := []) (ps := []) rfl bz_157)) rfl rfl ?_))
   rw [← hzz]
   refine dJ 1 rfl hs rfl (fun w hs => (aO rfl (bR k_57 (hG.ld hs.isIn (g := 4) rfl)))) rfl (dL 2 rfl (dR 0 hs k_157 rfl rfl rfl hzl hzl hzf rfl (fun w hs => ⟨fun _ => hs, dI 3 rfl (fun w => aD rfl) rfl rfl (bS (by decide +kernel) (aV ⟨_, res2 ⟨_, rfl, aP k_157 (hs.g 0 rfl) hzl⟩ rfl, ?_⟩))⟩)))
   exact ⟨V, _, _, _, .early, none, m, rfl, hs.drop hb2, bodyM_early (by rcases hc0 with h | h; exact .inl h; exact .inr ⟨by omega, by omega⟩), hp, rfl, hzl, hzf, fun h => (by cases h), fun _ => rfl⟩
   · obtain ⟨hv, hty⟩ : m.valid = true ∧ m.htype = 1 := by
      rcases Classical.em (m.valid = false) with h | h
      exact absurd (.inl h) hc0
      exact ⟨by simpa using h, by rcases Classical.em (m.htype = 1) with h' | h' <;> first | exact h' | exact absurd (.inr h') hc0⟩
     have hcond : ¬ (m.valid = false ∨ (1 ≠ 13 ∧ kindOfType m.htype ≠ 1)) := by
      rintro (h | ⟨h, h'⟩)
      rw [hv] at h; cases h
      omega
     obtain ⟨hs1, hs4⟩ := valid_sec hwf hv
     obtain ⟨rfl, rfl, rfl, rfl, rfl, rfl, rfl⟩ := hx hs1
     have hix := (hwf.idxV hv).1
     have hcn := cW l m.sec
     refine aW (aF (bV hs [3, 7] mixed (fun w hs => dI 0 rfl (fun w => aC rfl) rfl rfl (dI 1 rfl (fun w => aN rfl) rfl rfl (dI 2 rfl (fun w => aR fo_100_0 rfl) rfl rfl (dJ 3 rfl hs rfl (fun w hs => (aO rfl (aQ k_23 (hs.g 1 rfl) rfl))) rfl (dI 4 rfl (fun w => aC rfl) rfl rfl (dI 5 rfl (fun w => aN rfl) rfl rfl (dI 6 rfl (fun w => aR fo_100_3 rfl) rfl rfl (dJ 7 rfl hs rfl (fun w hs => (aO rfl (aQ cH (hs.g 1 rfl) rfl))) rfl (a_two 8 12 (by decide +kernel) rfl rfl ?_ ?_)))))))))))
     refine cF (cD rfl rfl ok_160 (c_unpackA hG hs.isIn hb m.at_ rfl (by omega) (by omega))) rfl (fun v29 w HF => ?_)
     obtain ⟨bcs, e, k, rfl, hc, he, hcl, hcf, hr⟩ := HF
     replace hs := hs.frame hc
     replace hr : (∃ r, k = .ok ∧ body l m.at_ 1 m.hlen = some r ∧ BodyC V 1 0 r bcs) ∨ (k = .other ∧ body l m.at_ 1 m.hlen = none) := by
      rcases hr with ⟨r, h1, h2⟩ | ⟨h1, h2⟩
      exact .inl ⟨r, h1, h2 m.hlen⟩
      exact .inr ⟨h1, h2 m.hlen⟩
     refine ⟨fun h => absurd h (by decide +kernel), dI 9 rfl (fun w => aC rfl) rfl rfl (dI 10 rfl (fun w => aI rfl rfl) rfl rfl (dI 11 rfl (fun w => aI rfl rfl) rfl rfl (dL 12 rfl (aX hs z_157 rfl (fun b4 w hb4 he4 hs => ⟨fun _ => (hs.drop hb4).less, ?_⟩)))))⟩
     rotate_left
     refine aX hs z_157 rfl (fun b4 w hb4 he4 hs => ⟨fun _ => (hs.drop hb4).less, dL 8 rfl (cF (cD rfl rfl ok_160 (c_unpackA hG hs.isIn hb m.at_ rfl (by omega) (by omega))) rfl (fun v29 w HF => ?_))⟩)
     obtain ⟨bcs, e, k, rfl, hc, he, hcl, hcf, hr⟩ := HF
     replace hs := hs.frame hc
     replace hr : (∃ r, k = .ok ∧ body l m.at_ 1 m.hlen = some r ∧ BodyC V 1 0 r bcs) ∨ (k = .other ∧ body l m.at_ 1 m.hlen = none) := by
      rcases hr with ⟨r, h1, h2⟩ | ⟨h1, h2⟩
      exact .inl ⟨r, h1, h2 m.hlen⟩
      exact .inr ⟨h1, h2 m.hlen⟩
     refine ⟨fun h => absurd h (by decide +kernel), dI 9 rfl (fun w => aC rfl) rfl rfl (dI 10 rfl (fun w => aI rfl rfl) rfl rfl (dI 11 rfl (fun w => aI rfl rfl) rfl rfl ?_))⟩
     all_goals
      refine dL 13 rfl (dR 0 hs k_157 rfl rfl rfl hcl (by simp) hcf rfl (fun w hs => ⟨fun _ => (hs.drop hb4).less, dI 14 rfl (fun w => aD rfl) rfl rfl (bS (by decide +kernel) (aF (dP (dM rfl rfl (lp (bB he rfl) rfl (aH (bH rfl (fun hc1 => ?_) (fun hc1 => ?_))))))))⟩))
      refine dP (lp (bM (vs := []) (ps := []) rfl bz_157) rfl ?_)
      rw [← hzz]
      refine dM rfl rfl (aJ (dR 1 hs k_157 rfl rfl rfl hzl hzl hzf rfl (fun w hs => dN rfl rfl (aH (aV ⟨_, res2 ⟨_, rfl, aP k_157 (hs.g 1 rfl) hzl⟩ rfl, ?_⟩)))))
      have hno : k = .other ∧ body l m.at_ 1 m.hlen = none := by
       rcases hr with ⟨r, hk, _⟩ | h
       exact absurd hk hc1
       exact h
      obtain ⟨rfl, hno⟩ := hno
      exact ⟨V, _, _, _, .other, none, m, rfl, (hs.drop hb4).drop hb2, dE hcond hno, PR.mk rfl, he, hzl, hzf, fun h => (by cases h), fun _ => rfl⟩
      have hk : k = .ok := by simpa using hc1
      subst hk
      obtain ⟨r, hbd, hBC⟩ : ∃ r, body l m.at_ 1 m.hlen = some r ∧ BodyC V 1 0 r bcs := by
       rcases hr with ⟨r, _, h⟩ | ⟨h, _⟩
       exact ⟨r, h⟩
       cases h
      refine aW (aF (bV hs [3, 7] mixed (fun w hs => dI 0 rfl (fun w => aC rfl) rfl rfl (dI 1 rfl (fun w => aN rfl) rfl rfl (dI 2 rfl (fun w => aR fo_100_3 rfl) rfl rfl (dJ 3 rfl hs rfl (fun w hs => (aO rfl (aQ cH (hs.g 2 rfl) rfl))) rfl (dI 4 rfl (fun w => aC rfl) rfl rfl (dI 5 rfl (fun w => aN rfl) rfl rfl (dI 6 rfl (fun w => aR fo_100_8 rfl) rfl rfl (dJ 7 rfl hs rfl (fun w hs => (aO rfl (aQ k_22 (hs.g 2 rfl) rfl))) rfl (dI 8 rfl (fun w => (bY Tryz.underlying22 Tryz.underlying3 rfl (i64c (c := m.hlen) rfl (by omega)))) rfl rfl (dI 9 rfl (fun w => (bN rfl rfl (i64c (c := m.at_ + m.hlen) (by omega) (by omega)))) rfl rfl (dI 10 rfl (fun w => aN rfl) rfl rfl ?_)))))))))))))
      refine dI 11 rfl (fun w => aR fo_100_3 rfl) rfl rfl (dL 12 rfl (dQ 2 hs cH rfl rfl rfl rfl rfl rfl rfl (fun w hs => ⟨fun h => absurd h (by decide +kernel), bS (by decide +kernel) (dP (dM rfl rfl (lp (aN rfl) rfl (lp (aR fo_100_5 rfl) rfl (aJ (dQ 2 hs k_4 rfl rfl rfl rfl rfl rfl rfl (fun w hs => aH (dP (dM rfl rfl (lp (aN rfl) rfl (lp (aR fo_100_4 rfl) rfl ?_)))))))))))⟩)))
      refine lp (aO rfl (aQ cH (hs.g 2 rfl) rfl)) rfl (lp (bN rfl rfl (i64c (c := m.index + 1) (by omega) (by omega))) rfl (lp (aN rfl) rfl (lp (aR fo_100_4 rfl) rfl (aJ (dQ 2 hs cH rfl rfl rfl rfl rfl rfl rfl (fun w hs => aH (dP (lp (aO rfl (aP k_157 (hs.g 0 rfl) hcl)) rfl (aJ (dR 1 hs k_157 rfl rfl rfl hcl hzl hcf rfl (fun w hs => dN rfl rfl (aH (aV ⟨_, res2 ⟨_, rfl, aP k_157 (hs.g 1 rfl) hcl⟩ rfl, ?_⟩)))))))))))))
      exact ⟨V, _, _, _, .ok, _, _, rfl, (hs.drop hb4).drop hb2, dD hcond hbd, PR.mk rfl, rfl, hcl, hcf, fun _ => ⟨r, hbd, hBC⟩, fun h => absurd rfl h⟩
set_option maxHeartbeats 1000000 in
theorem c_bodyNS (hG : Gl A V) (hV : V.In w0) (hb : RB V mv l) (hown : w0.heap[bp]? = some (.cells cs.toArray E (0, 0))) (hvn : V bp = none) (hp : PR l mv m cs) (hwf : WF l m) (h2l : l.length ≤ 4294967296) :
  CallsV Tryz.prog 89 #[.pointer (some ⟨bp, 0, none⟩)] w0 fun v w' => ∃ (V' : Vw) (cs' bcs : List Value) (e : Value) (k : EK) (ro : Option PRec) (m' : PM), v = .tuple #[.agg bcs.toArray, e] ∧
   St ⟨w0, V, V'⟩ w' [(bp, .cells cs'.toArray E (0, 0))] ∧ bodyM l m 2 = (k, ro, m') ∧ PR l mv m' cs' ∧ ErrV A e k ∧ bcs.length = 256 ∧ Flat bcs ∧ (k = .ok → ∃ r, body l m.at_ 2 m.hlen = some r ∧ BodyC V' 2 m.htype r bcs) ∧ (k ≠ .ok → bcs = (rep 256 (.int .u8 0))) := by
 have hp' := hp
 have hat := hwf.at_le
 have hhl := hwf.hl
 obtain ⟨m0, x1, x2, x3, x4, x5, x6, rfl, hm0, hx⟩ := hp'
 have hs := St.start1 hV hown (bU _ _) hvn
 have hkt := @kind_type m.htype
 refine aT [_] Tryz.func89 Tryz.ntmps89 Tryz.results89 rfl rfl (dP (aJ (aX hs z_163 rfl (fun b2 w hb2 he2 hs => ?_))))
 obtain ⟨zz, hzz, hzl, hzf, hs⟩ : ∃ zz : List Value, zz = (rep 256 (.int .u8 0)) ∧ zz.length = 256 ∧ Flat zz ∧ St ⟨w0, V, V⟩ w [(b2, .cells zz.toArray 163 (0, 0)), (bp, .cells (parC m0 x1 x2 x3 x4 x5 x6 m).toArray E (0, 0))] := ⟨_, rfl, by simp, aG (by decide +kernel), hs⟩
 refine dN rfl rfl (aH (aF (dG (fun ρ w => Sub (upd (upd (upd emp 17 (.bool (decide (m.valid = false ∨ m.htype ≠ 2)))) 2 (.pointer (some ⟨b2, 0, none⟩))) 0 (.pointer (some ⟨bp, 0, none⟩))) ρ ∧ St ⟨w0, V, V⟩ w [(b2, .cells zz.toArray 163 (0, 0)), (bp, .cells (parC m0 x1 x2 x3 x4 x5 x6 m).toArray E (0, 0))]) ?_ ?_)))
 cases hg : m.valid
 have hg : (!m.valid) = true := by rw [hg]; rfl
 refine aB (dM rfl rfl (lp (aN rfl) rfl (lp (aR fo_100_5 rfl) rfl (lp (aO rfl (aQ k_4 (hs.g 1 rfl) rfl)) rfl (lp (cS rfl) rfl (dM rfl rfl (aU rfl rfl hg rfl (aU rfl rfl hg rfl (aU rfl rfl hg rfl (aU rfl rfl hg rfl (aU rfl rfl hg rfl (lp (bO rfl hg rfl) rfl (aH ?_)))))))))))))
 have hval : (true : Bool) = decide ((false : Bool) = false ∨ m.htype ≠ 2) := by symm; apply decide_eq_true; exact .inl rfl
 exact ⟨aL rfl (aL rfl (aL (congrArg (fun t => some (Value.bool t)) hval) (bG _))), hs⟩
 have hg : (!m.valid) = false := by rw [hg]; rfl
 refine aB (dM rfl rfl (lp (aN rfl) rfl (lp (aR fo_100_5 rfl) rfl (lp (aO rfl (aQ k_4 (hs.g 1 rfl) rfl)) rfl (lp (cS rfl) rfl (dM rfl rfl (lg rfl rfl hg (aC rfl) rfl (lg rfl rfl hg (aN rfl) rfl (lg rfl rfl hg (aR fo_100_7 rfl) rfl (lg rfl rfl hg (aO rfl (aQ k_87 (hs.g 1 rfl) rfl)) rfl (lg rfl rfl hg (po_neq rfl rfl) rfl (lp (bW rfl hg rfl) rfl (aH ?_)))))))))))))
 have hval : decide (((m.htype : Nat) : Int) ≠ 2) = decide ((true : Bool) = false ∨ m.htype ≠ 2) := by apply decide_eq_decide.2; simp; omega
 exact ⟨aL rfl (aL rfl (aL (congrArg (fun t => some (Value.bool t)) hval) (bG _))), hs⟩
 · clear hs
   rintro ρ w ⟨hsub, hs⟩
   refine EW.weaken hsub (bH rfl (fun hc0 => ?_) (fun hc0 => ?_))
   refine aF (bV hs [1] mixed (fun w hs => dI 0 rfl (fun w => (bM (vs := []) (ps := []) rfl bz_163)) rfl rfl ?_))
   rw [← hzz]
   refine dJ 1 rfl hs rfl (fun w hs => (aO rfl (bR k_57 (hG.ld hs.isIn (g := 4) rfl)))) rfl (dL 2 rfl (dR 0 hs k_163 rfl rfl rfl hzl hzl hzf rfl (fun w hs => ⟨fun _ => hs, dI 3 rfl (fun w => aD rfl) rfl rfl (bS (by decide +kernel) (aV ⟨_, res2 ⟨_, rfl, aP k_163 (hs.g 0 rfl) hzl⟩ rfl, ?_⟩))⟩)))
   exact ⟨V, _, _, _, .early, none, m, rfl, hs.drop hb2, bodyM_early (by rcases hc0 with h | h; exact .inl h; exact .inr ⟨by omega, by omega⟩), hp, rfl, hzl, hzf, fun h => (by cases h), fun _ => rfl⟩
   · obtain ⟨hv, hty⟩ : m.valid = true ∧ m.htype = 2 := by
      rcases Classical.em (m.valid = false) with h | h
      exact absurd (.inl h) hc0
      exact ⟨by simpa using h, by rcases Classical.em (m.htype = 2) with h' | h' <;> first | exact h' | exact absurd (.inr h') hc0⟩
     have hcond : ¬ (m.valid = false ∨ (2 ≠ 13 ∧ kindOfType m.htype ≠ 2)) := by
      rintro (h | ⟨h, h'⟩)
      rw [hv] at h; cases h
      omega
     obtain ⟨hs1, hs4⟩ := valid_sec hwf hv
     obtain ⟨rfl, rfl, rfl, rfl, rfl, rfl, rfl⟩ := hx hs1
     have hix := (hwf.idxV hv).1
     have hcn := cW l m.sec
     refine aW (aF (bV hs [3, 7] mixed (fun w hs => dI 0 rfl (fun w => aC rfl) rfl rfl (dI 1 rfl (fun w => aN rfl) rfl rfl (dI 2 rfl (fun w => aR fo_100_0 rfl) rfl rfl (dJ 3 rfl hs rfl (fun w hs => (aO rfl (aQ k_23 (hs.g 1 rfl) rfl))) rfl (dI 4 rfl (fun w => aC rfl) rfl rfl (dI 5 rfl (fun w => aN rfl) rfl rfl (dI 6 rfl (fun w => aR fo_100_3 rfl) rfl rfl (dJ 7 rfl hs rfl (fun w hs => (aO rfl (aQ cH (hs.g 1 rfl) rfl))) rfl (a_two 8 12 (by decide +kernel) rfl rfl ?_ ?_)))))))))))
     refine cF (cD rfl rfl ok_161 (c_unpackNS hG hs.isIn hb m.at_ rfl (by omega) (by omega))) rfl (fun v29 w HF => ?_)
     obtain ⟨bcs, e, k, rfl, hc, he, hcl, hcf, hr⟩ := HF
     replace hs := hs.frame hc
     replace hr : (∃ r, k = .ok ∧ body l m.at_ 2 m.hlen = some r ∧ BodyC V 2 0 r bcs) ∨ (k = .other ∧ body l m.at_ 2 m.hlen = none) := by
      rcases hr with ⟨r, h1, h2⟩ | ⟨h1, h2⟩
      exact .inl ⟨r, h1, h2 m.hlen⟩
      exact .inr ⟨h1, h2 m.hlen⟩
     refine ⟨fun h => absurd h (by decide +kernel), dI 9 rfl (fun w => aC rfl) rfl rfl (dI 10 rfl (fun w => aI rfl rfl) rfl rfl (dI 11 rfl (fun w => aI rfl rfl) rfl rfl (dL 12 rfl (aX hs z_163 rfl (fun b4 w hb4 he4 hs => ⟨fun _ => (hs.drop hb4).less, ?_⟩)))))⟩
     rotate_left
     refine aX hs z_163 rfl (fun b4 w hb4 he4 hs => ⟨fun _ => (hs.drop hb4).less, dL 8 rfl (cF (cD rfl rfl ok_161 (c_unpackNS hG hs.isIn hb m.at_ rfl (by omega) (by omega))) rfl (fun v29 w HF => ?_))⟩)
     obtain ⟨bcs, e, k, rfl, hc, he, hcl, hcf, hr⟩ := HF
     replace hs := hs.frame hc
     replace hr : (∃ r, k = .ok ∧ body l m.at_ 2 m.hlen = some r ∧ BodyC V 2 0 r bcs) ∨ (k = .other ∧ body l m.at_ 2 m.hlen = none) := by
      rcases hr with ⟨r, h1, h2⟩ | ⟨h1, h2⟩
      exact .inl ⟨r, h1, h2 m.hlen⟩
      exact .inr ⟨h1, h2 m.hlen⟩
     refine ⟨fun h => absurd h (by decide +kernel), dI 9 rfl (fun w => aC rfl) rfl rfl (dI 10 rfl (fun w => aI rfl rfl) rfl rfl (dI 11 rfl (fun w => aI rfl rfl) rfl rfl ?_))⟩
     all_goals
      refine dL 13 rfl (dR 0 hs k_163 rfl rfl rfl hcl (by simp) hcf rfl (fun w hs => ⟨fun _ => (hs.drop hb4).less, dI 14 rfl (fun w => aD rfl) rfl rfl (bS (by decide +kernel) (aF (dP (dM rfl rfl (lp (bB he rfl) rfl (aH (bH rfl (fun hc1 => ?_) (fun hc1 => ?_))))))))⟩))
      refine dP (lp (bM (vs := []) (ps := []) rfl bz_163) rfl ?_)
      rw [← hzz]
      refine dM rfl rfl (aJ (dR 1 hs k_163 rfl rfl rfl hzl hzl hzf rfl (fun w hs => dN rfl rfl (aH (aV ⟨_, res2 ⟨_, rfl, aP k_163 (hs.g 1 rfl) hzl⟩ rfl, ?_⟩)))))
      have hno : k = .other ∧ body l m.at_ 2 m.hlen = none := by
       rcases hr with ⟨r, hk, _⟩ | h
       exact absurd hk hc1
       exact h
      obtain ⟨rfl, hno⟩ := hno
      exact ⟨V, _, _, _, .other, none, m, rfl, (hs.drop hb4).drop hb2, dE hcond hno, PR.mk rfl, he, hzl, hzf, fun h => (by cases h), fun _ => rfl⟩
      have hk : k = .ok := by simpa using hc1
      subst hk
      obtain ⟨r, hbd, hBC⟩ : ∃ r, body l m.at_ 2 m.hlen = some r ∧ BodyC V 2 0 r bcs := by
       rcases hr with ⟨r, _, h⟩ | ⟨h, _⟩
       exact ⟨r, h⟩
       cases h
      refine aW (aF (bV hs [3, 7] mixed (fun w hs => dI 0 rfl (fun w => aC rfl) rfl rfl (dI 1 rfl (fun w => aN rfl) rfl rfl (dI 2 rfl (fun w => aR fo_100_3 rfl) rfl rfl (dJ 3 rfl hs rfl (fun w hs => (aO rfl (aQ cH (hs.g 2 rfl) rfl))) rfl (dI 4 rfl (fun w => aC rfl) rfl rfl (dI 5 rfl (fun w => aN rfl) rfl rfl (dI 6 rfl (fun w => aR fo_100_8 rfl) rfl rfl (dJ 7 rfl hs rfl (fun w hs => (aO rfl (aQ k_22 (hs.g 2 rfl) rfl))) rfl (dI 8 rfl (fun w => (bY Tryz.underlying22 Tryz.underlying3 rfl (i64c (c := m.hlen) rfl (by omega)))) rfl rfl (dI 9 rfl (fun w => (bN rfl rfl (i64c (c := m.at_ + m.hlen) (by omega) (by omega)))) rfl rfl (dI 10 rfl (fun w => aN rfl) rfl rfl ?_)))))))))))))
      refine dI 11 rfl (fun w => aR fo_100_3 rfl) rfl rfl (dL 12 rfl (dQ 2 hs cH rfl rfl rfl rfl rfl rfl rfl (fun w hs => ⟨fun h => absurd h (by decide +kernel), bS (by decide +kernel) (dP (dM rfl rfl (lp (aN rfl) rfl (lp (aR fo_100_5 rfl) rfl (aJ (dQ 2 hs k_4 rfl rfl rfl rfl rfl rfl rfl (fun w hs => aH (dP (dM rfl rfl (lp (aN rfl) rfl (lp (aR fo_100_4 rfl) rfl ?_)))))))))))⟩)))
      refine lp (aO rfl (aQ cH (hs.g 2 rfl) rfl)) rfl (lp (bN rfl rfl (i64c (c := m.index + 1) (by omega) (by omega))) rfl (lp (aN rfl) rfl (lp (aR fo_100_4 rfl) rfl (aJ (dQ 2 hs cH rfl rfl rfl rfl rfl rfl rfl (fun w hs => aH (dP (lp (aO rfl (aP k_163 (hs.g 0 rfl) hcl)) rfl (aJ (dR 1 hs k_163 rfl rfl rfl hcl hzl hcf rfl (fun w hs => dN rfl rfl (aH (aV ⟨_, res2 ⟨_, rfl, aP k_163 (hs.g 1 rfl) hcl⟩ rfl, ?_⟩)))))))))))))
      exact ⟨V, _, _, _, .ok, _, _, rfl, (hs.drop hb4).drop hb2, dD hcond hbd, PR.mk rfl, rfl, hcl, hcf, fun _ => ⟨r, hbd, hBC⟩, fun h => absurd rfl h⟩
set_option maxHeartbeats 1000000 in
theorem c_bodyCNAME (hG : Gl A V) (hV : V.In w0) (hb : RB V mv l) (hown : w0.heap[bp]? = some (.cells cs.toArray E (0, 0))) (hvn : V bp = none) (hp : PR l mv m cs) (hwf : WF l m) (h2l : l.length ≤ 4294967296) :
  CallsV Tryz.prog 91 #[.pointer (some ⟨bp, 0, none⟩)] w0 fun v w' => ∃ (V' : Vw) (cs' bcs : List Value) (e : Value) (k : EK) (ro : Option PRec) (m' : PM), v = .tuple #[.agg bcs.toArray, e] ∧
   St ⟨w0, V, V'⟩ w' [(bp, .cells cs'.toArray E (0, 0))] ∧ bodyM l m 3 = (k, ro, m') ∧ PR l mv m' cs' ∧ ErrV A e k ∧ bcs.length = 256 ∧ Flat bcs ∧ (k = .ok → ∃ r, body l m.at_ 3 m.hlen = some r ∧ BodyC V' 3 m.htype r bcs) ∧ (k ≠ .ok → bcs = (rep 256 (.int .u8 0))) := by
 have hp' := hp
 have hat := hwf.at_le
 have hhl := hwf.hl
 obtain ⟨m0, x1, x2, x3, x4, x5, x6, rfl, hm0, hx⟩ := hp'
 have hs := St.start1 hV hown (bU _ _) hvn
 have hkt := @kind_type m.htype
 refine aT [_] Tryz.func91 Tryz.ntmps91 Tryz.results91 rfl rfl (dP (aJ (aX hs z_168 rfl (fun b2 w hb2 he2 hs => ?_))))
 obtain ⟨zz, hzz, hzl, hzf, hs⟩ : ∃ zz : List Value, zz = (rep 256 (.int .u8 0)) ∧ zz.length = 256 ∧ Flat zz ∧ St ⟨w0, V, V⟩ w [(b2, .cells zz.toArray 168 (0, 0)), (bp, .cells (parC m0 x1 x2 x3 x4 x5 x6 m).toArray E (0, 0))] := ⟨_, rfl, by simp, aG (by decide +kernel), hs⟩
 refine dN rfl rfl (aH (aF (dG (fun ρ w => Sub (upd (upd (upd emp 17 (.bool (decide (m.valid = false ∨ m.htype ≠ 5)))) 2 (.pointer (some ⟨b2, 0, none⟩))) 0 (.pointer (some ⟨bp, 0, none⟩))) ρ ∧ St ⟨w0, V, V⟩ w [(b2, .cells zz.toArray 168 (0, 0)), (bp, .cells (parC m0 x1 x2 x3 x4 x5 x6 m).toArray E (0, 0))]) ?_ ?_)))
 cases hg : m.valid
 have hg : (!m.valid) = true := by rw [hg]; rfl
 refine aB (dM rfl rfl (lp (aN rfl) rfl (lp (aR fo_100_5 rfl) rfl (lp (aO rfl (aQ k_4 (hs.g 1 rfl) rfl)) rfl (lp (cS rfl) rfl (dM rfl rfl (aU rfl rfl hg rfl (aU rfl rfl hg rfl (aU rfl rfl hg rfl (aU rfl rfl hg rfl (aU rfl rfl hg rfl (lp (bO rfl hg rfl) rfl (aH ?_)))))))))))))
 have hval : (true : Bool) = decide ((false : Bool) = false ∨ m.htype ≠ 5) := by symm; apply decide_eq_true; exact .inl rfl
 exact ⟨aL rfl (aL rfl (aL (congrArg (fun t => some (Value.bool t)) hval) (bG _))), hs⟩
 have hg : (!m.valid) = false := by rw [hg]; rfl
 refine aB (dM rfl rfl (lp (aN rfl) rfl (lp (aR fo_100_5 rfl) rfl (lp (aO rfl (aQ k_4 (hs.g 1 rfl) rfl)) rfl (lp (cS rfl) rfl (dM rfl rfl (lg rfl rfl hg (aC rfl) rfl (lg rfl rfl hg (aN rfl) rfl (lg rfl rfl hg (aR fo_100_7 rfl) rfl (lg rfl rfl hg (aO rfl (aQ k_87 (hs.g 1 rfl) rfl)) rfl (lg rfl rfl hg (po_neq rfl rfl) rfl (lp (bW rfl hg rfl) rfl (aH ?_)))))))))))))
 have hval : decide (((m.htype : Nat) : Int) ≠ 5) = decide ((true : Bool) = false ∨ m.htype ≠ 5) := by apply decide_eq_decide.2; simp; omega
 exact ⟨aL rfl (aL rfl (aL (congrArg (fun t => some (Value.bool t)) hval) (bG _))), hs⟩
 · clear hs
   rintro ρ w ⟨hsub, hs⟩
   refine EW.weaken hsub (bH rfl (fun hc0 => ?_) (fun hc0 => ?_))
   refine aF (bV hs [1] mixed (fun w hs => dI 0 rfl (fun w => (bM (vs := []) (ps := []) rfl bz_168)) rfl rfl ?_))
   rw [← hzz]
   refine dJ 1 rfl hs rfl (fun w hs => (aO rfl (bR k_57 (hG.ld hs.isIn (g := 4) rfl)))) rfl (dL 2 rfl (dR 0 hs k_168 rfl rfl rfl hzl hzl hzf rfl (fun w hs => ⟨fun _ => hs, dI 3 rfl (fun w => aD rfl) rfl rfl (bS (by decide +kernel) (aV ⟨_, res2 ⟨_, rfl, aP k_168 (hs.g 0 rfl) hzl⟩ rfl, ?_⟩))⟩)))
   exact ⟨V, _, _, _, .early, none, m, rfl, hs.drop hb2, bodyM_early (by rcases hc0 with h | h; exact .inl h; exact .inr ⟨by omega, by omega⟩), hp, rfl, hzl, hzf, fun h => (by cases h), fun _ => rfl⟩
   · obtain ⟨hv, hty⟩ : m.valid = true ∧ m.htype = 5 := by
      rcases Classical.em (m.valid = false) with h | h
      exact absurd (.inl h) hc0
      exact ⟨by simpa using h, by rcases Classical.em (m.htype = 5) with h' | h' <;> first | exact h' | exact absurd (.inr h') hc0⟩
     have hcond : ¬ (m.valid = false ∨ (3 ≠ 13 ∧ kindOfType m.htype ≠ 3)) := by
      rintro (h | ⟨h, h'⟩)
      rw [hv] at h; cases h
      omega
     obtain ⟨hs1, hs4⟩ := valid_sec hwf hv
     obtain ⟨rfl, rfl, rfl, rfl, rfl, rfl, rfl⟩ := hx hs1
     have hix := (hwf.idxV hv).1
     have hcn := cW l m.sec
     refine aW (aF (bV hs [3, 7] mixed (fun w hs => dI 0 rfl (fun w => aC rfl) rfl rfl (dI 1 rfl (fun w => aN rfl) rfl rfl (dI 2 rfl (fun w => aR fo_100_0 rfl) rfl rfl (dJ 3 rfl hs rfl (fun w hs => (aO rfl (aQ k_23 (hs.g 1 rfl) rfl))) rfl (dI 4 rfl (fun w => aC rfl) rfl rfl (dI 5 rfl (fun w => aN rfl) rfl rfl (dI 6 rfl (fun w => aR fo_100_3 rfl) rfl rfl (dJ 7 rfl hs rfl (fun w hs => (aO rfl (aQ cH (hs.g 1 rfl) rfl))) rfl (a_two 8 12 (by decide +kernel) rfl rfl ?_ ?_)))))))))))
     refine cF (cD rfl rfl ok_162 (c_unpackCNAME hG hs.isIn hb m.at_ rfl (by omega) (by omega))) rfl (fun v29 w HF => ?_)
     obtain ⟨bcs, e, k, rfl, hc, he, hcl, hcf, hr⟩ := HF
     replace hs := hs.frame hc
     replace hr : (∃ r, k = .ok ∧ body l m.at_ 3 m.hlen = some r ∧ BodyC V 3 0 r bcs) ∨ (k = .other ∧ body l m.at_ 3 m.hlen = none) := by
      rcases hr with ⟨r, h1, h2⟩ | ⟨h1, h2⟩
      exact .inl ⟨r, h1, h2 m.hlen⟩
      exact .inr ⟨h1, h2 m.hlen⟩
     refine ⟨fun h => absurd h (by decide +kernel), dI 9 rfl (fun w => aC rfl) rfl rfl (dI 10 rfl (fun w => aI rfl rfl) rfl rfl (dI 11 rfl (fun w => aI rfl rfl) rfl rfl (dL 12 rfl (aX hs z_168 rfl (fun b4 w hb4 he4 hs => ⟨fun _ => (hs.drop hb4).less, ?_⟩)))))⟩
     rotate_left
     refine aX hs z_168 rfl (fun b4 w hb4 he4 hs => ⟨fun _ => (hs.drop hb4).less, dL 8 rfl (cF (cD rfl rfl ok_162 (c_unpackCNAME hG hs.isIn hb m.at_ rfl (by omega) (by omega))) rfl (fun v29 w HF => ?_))⟩)
     obtain ⟨bcs, e, k, rfl, hc, he, hcl, hcf, hr⟩ := HF
     replace hs := hs.frame hc
     replace hr : (∃ r, k = .ok ∧ body l m.at_ 3 m.hlen = some r ∧ BodyC V 3 0 r bcs) ∨ (k = .other ∧ body l m.at_ 3 m.hlen = none) := by
      rcases hr with ⟨r, h1, h2⟩ | ⟨h1, h2⟩
      exact .inl ⟨r, h1, h2 m.hlen⟩
      exact .inr ⟨h1, h2 m.hlen⟩
     refine ⟨fun h => absurd h (by decide +kernel), dI 9 rfl (fun w => aC rfl) rfl rfl (dI 10 rfl (fun w => aI rfl rfl) rfl rfl (dI 11 rfl (fun w => aI rfl rfl) rfl rfl ?_))⟩
     all_goals
      refine dL 13 rfl (dR 0 hs k_168 rfl rfl rfl hcl (by simp) hcf rfl (fun w hs => ⟨fun _ => (hs.drop hb4).less, dI 14 rfl (fun w => aD rfl) rfl rfl (bS (by decide +kernel) (aF (dP (dM rfl rfl (lp (bB he rfl) rfl (aH (bH rfl (fun hc1 => ?_) (fun hc1 => ?_))))))))⟩))
      refine dP (lp (bM (vs := []) (ps := []) rfl bz_168) rfl ?_)
      rw [← hzz]
      refine dM rfl rfl (aJ (dR 1 hs k_168 rfl rfl rfl hzl hzl hzf rfl (fun w hs => dN rfl rfl (aH (aV ⟨_, res2 ⟨_, rfl, aP k_168 (hs.g 1 rfl) hzl⟩ rfl, ?_⟩)))))
      have hno : k = .other ∧ body l m.at_ 3 m.hlen = none := by
       rcases hr with ⟨r, hk, _⟩ | h
       exact absurd hk hc1
       exact h
      obtain ⟨rfl, hno⟩ := hno
      exact ⟨V, _, _, _, .other, none, m, rfl, (hs.drop hb4).drop hb2, dE hcond hno, PR.mk rfl, he, hzl, hzf, fun h => (by cases h), fun _ => rfl⟩
      have hk : k = .ok := by simpa using hc1
      subst hk
      obtain ⟨r, hbd, hBC⟩ : ∃ r, body l m.at_ 3 m.hlen = some r ∧ BodyC V 3 0 r bcs := by
       rcases hr with ⟨r, _, h⟩ | ⟨h, _⟩
       exact ⟨r, h⟩
       cases h
      refine aW (aF (bV hs [3, 7] mixed (fun w hs => dI 0 rfl (fun w => aC rfl) rfl rfl (dI 1 rfl (fun w => aN rfl) rfl rfl (dI 2 rfl (fun w => aR fo_100_3 rfl) rfl rfl (dJ 3 rfl hs rfl (fun w hs => (aO rfl (aQ cH (hs.g 2 rfl) rfl))) rfl (dI 4 rfl (fun w => aC rfl) rfl rfl (dI 5 rfl (fun w => aN rfl) rfl rfl (dI 6 rfl (fun w => aR fo_100_8 rfl) rfl rfl (dJ 7 rfl hs rfl (fun w hs => (aO rfl (aQ k_22 (hs.g 2 rfl) rfl))) rfl (dI 8 rfl (fun w => (bY Tryz.underlying22 Tryz.underlying3 rfl (i64c (c := m.hlen) rfl (by omega)))) rfl rfl (dI 9 rfl (fun w => (bN rfl rfl (i64c (c := m.at_ + m.hlen) (by omega) (by omega)))) rfl rfl (dI 10 rfl (fun w => aN rfl) rfl rfl ?_)))))))))))))
      refine dI 11 rfl (fun w => aR fo_100_3 rfl) rfl rfl (dL 12 rfl (dQ 2 hs cH rfl rfl rfl rfl rfl rfl rfl (fun w hs => ⟨fun h => absurd h (by decide +kernel), bS (by decide +kernel) (dP (dM rfl rfl (lp (aN rfl) rfl (lp (aR fo_100_5 rfl) rfl (aJ (dQ 2 hs k_4 rfl rfl rfl rfl rfl rfl rfl (fun w hs => aH (dP (dM rfl rfl (lp (aN rfl) rfl (lp (aR fo_100_4 rfl) rfl ?_)))))))))))⟩)))
      refine lp (aO rfl (aQ cH (hs.g 2 rfl) rfl)) rfl (lp (bN rfl rfl (i64c (c := m.index + 1) (by omega) (by omega))) rfl (lp (aN rfl) rfl (lp (aR fo_100_4 rfl) rfl (aJ (dQ 2 hs cH rfl rfl rfl rfl rfl rfl rfl (fun w hs => aH (dP (lp (aO rfl (aP k_168 (hs.g 0 rfl) hcl)) rfl (aJ (dR 1 hs k_168 rfl rfl rfl hcl hzl hcf rfl (fun w hs => dN rfl rfl (aH (aV ⟨_, res2 ⟨_, rfl, aP k_168 (hs.g 1 rfl) hcl⟩ rfl, ?_⟩)))))))))))))
      exact ⟨V, _, _, _, .ok, _, _, rfl, (hs.drop hb4).drop hb2, dD hcond hbd, PR.mk rfl, rfl, hcl, hcf, fun _ => ⟨r, hbd, hBC⟩, fun h => absurd rfl h⟩
set_option maxHeartbeats 1000000 in
theorem c_bodySOA (hG : Gl A V) (hV : V.In w0) (hb : RB V mv l) (hown : w0.heap[bp]? = some (.cells cs.toArray E (0, 0))) (hvn : V bp = none) (hp : PR l mv m cs) (hwf : WF l m) (h2l : l.length ≤ 4294967296) :
  CallsV Tryz.prog 93 #[.pointer (some ⟨bp, 0, none⟩)] w0 fun v w' => ∃ (V' : Vw) (cs' bcs : List Value) (e : Value) (k : EK) (ro : Option PRec) (m' : PM), v = .tuple #[.agg bcs.toArray, e] ∧
   St ⟨w0, V, V'⟩ w' [(bp, .cells cs'.toArray E (0, 0))] ∧ bodyM l m 4 = (k, ro, m') ∧ PR l mv m' cs' ∧ ErrV A e k ∧ bcs.length = 517 ∧ Flat bcs ∧ (k = .ok → ∃ r, body l m.at_ 4 m.hlen = some r ∧ BodyC V' 4 m.htype r bcs) ∧ (k ≠ .ok → bcs = (rep 512 (.int .u8 0) ++ [.int .u32 0, .int .u32 0, .int .u32 0, .int .u32 0, .int .u32 0])) := by
 have hp' := hp
 have hat := hwf.at_le
 have hhl := hwf.hl
 obtain ⟨m0, x1, x2, x3, x4, x5, x6, rfl, hm0, hx⟩ := hp'
 have hs := St.start1 hV hown (bU _ _) hvn
 have hkt := @kind_type m.htype
 refine aT [_] Tryz.func93 Tryz.ntmps93 Tryz.results93 rfl rfl (dP (aJ (aX hs z_173 rfl (fun b2 w hb2 he2 hs => ?_))))
 obtain ⟨zz, hzz, hzl, hzf, hs⟩ : ∃ zz : List Value, zz = (rep 512 (.int .u8 0) ++ [.int .u32 0, .int .u32 0, .int .u32 0, .int .u32 0, .int .u32 0]) ∧ zz.length = 517 ∧ Flat zz ∧ St ⟨w0, V, V⟩ w [(b2, .cells zz.toArray 173 (0, 0)), (bp, .cells (parC m0 x1 x2 x3 x4 x5 x6 m).toArray E (0, 0))] := ⟨_, rfl, by simp, aG (by decide +kernel), hs⟩
 refine dN rfl rfl (aH (aF (dG (fun ρ w => Sub (upd (upd (upd emp 17 (.bool (decide (m.valid = false ∨ m.htype ≠ 6)))) 2 (.pointer (some ⟨b2, 0, none⟩))) 0 (.pointer (some ⟨bp, 0, none⟩))) ρ ∧ St ⟨w0, V, V⟩ w [(b2, .cells zz.toArray 173 (0, 0)), (bp, .cells (parC m0 x1 x2 x3 x4 x5 x6 m).toArray E (0, 0))]) ?_ ?_)))
 cases hg : m.valid
 have hg : (!m.valid) = true := by rw [hg]; rfl
 refine aB (dM rfl rfl (lp (aN rfl) rfl (lp (aR fo_100_5 rfl) rfl (lp (aO rfl (aQ k_4 (hs.g 1 rfl) rfl)) rfl (lp (cS rfl) rfl (dM rfl rfl (aU rfl rfl hg rfl (aU rfl rfl hg rfl (aU rfl rfl hg rfl (aU rfl rfl hg rfl (aU rfl rfl hg rfl (lp (bO rfl hg rfl) rfl (aH ?_)))))))))))))
 have hval : (true : Bool) = decide ((false : Bool) = false ∨ m.htype ≠ 6) := by symm; apply decide_eq_true; exact .inl rfl
 exact ⟨aL rfl (aL rfl (aL (congrArg (fun t => some (Value.bool t)) hval) (bG _))), hs⟩
 have hg : (!m.valid) = false := by rw [hg]; rfl
 refine aB (dM rfl rfl (lp (aN rfl) rfl (lp (aR fo_100_5 rfl) rfl (lp (aO rfl (aQ k_4 (hs.g 1 rfl) rfl)) rfl (lp (cS rfl) rfl (dM rfl rfl (lg rfl rfl hg (aC rfl) rfl (lg rfl rfl hg (aN rfl) rfl (lg rfl rfl hg (aR fo_100_7 rfl) rfl (lg rfl rfl hg (aO rfl (aQ k_87 (hs.g 1 rfl) rfl)) rfl (lg rfl rfl hg (po_neq rfl rfl) rfl (lp (bW rfl hg rfl) rfl (aH ?_)))))))))))))
 have hval : decide (((m.htype : Nat) : Int) ≠ 6) = decide ((true : Bool) = false ∨ m.htype ≠ 6) := by apply decide_eq_decide.2; simp; omega
 exact ⟨aL rfl (aL rfl (aL (congrArg (fun t => some (Value.bool t)) hval) (bG _))), hs⟩
 · clear hs
   rintro ρ w ⟨hsub, hs⟩
   refine EW.weaken hsub (bH rfl (fun hc0 => ?_) (fun hc0 => ?_))
   refine aF (bV hs [1] mixed (fun w hs => dI 0 rfl (fun w => (bM (vs := []) (ps := []) rfl bz_173)) rfl rfl ?_))
   rw [← hzz]
   refine dJ 1 rfl hs rfl (fun w hs => (aO rfl (bR k_57 (hG.ld hs.isIn (g := 4) rfl)))) rfl (dL 2 rfl (dR 0 hs k_173 rfl rfl rfl hzl hzl hzf rfl (fun w hs => ⟨fun _ => hs, dI 3 rfl (fun w => aD rfl) rfl rfl (bS (by decide +kernel) (aV ⟨_, res2 ⟨_, rfl, aP k_173 (hs.g 0 rfl) hzl⟩ rfl, ?_⟩))⟩)))
   exact ⟨V, _, _, _, .early, none, m, rfl, hs.drop hb2, bodyM_early (by rcases hc0 with h | h; exact .inl h; exact .inr ⟨by omega, by omega⟩), hp, rfl, hzl, hzf, fun h => (by cases h), fun _ => rfl⟩
   · obtain ⟨hv, hty⟩ : m.valid = true ∧ m.htype = 6 := by
      rcases Classical.em (m.valid = false) with h | h
      exact absurd (.inl h) hc0
      exact ⟨by simpa using h, by rcases Classical.em (m.htype = 6) with h' | h' <;> first | exact h' | exact absurd (.inr h') hc0⟩
     have hcond : ¬ (m.valid = false ∨ (4 ≠ 13 ∧ kindOfType m.htype ≠ 4)) := by
      rintro (h | ⟨h, h'⟩)
      rw [hv] at h; cases h
      omega
     obtain ⟨hs1, hs4⟩ := valid_sec hwf hv
     obtain ⟨rfl, rfl, rfl, rfl, rfl, rfl, rfl⟩ := hx hs1
     have hix := (hwf.idxV hv).1
     have hcn := cW l m.sec
     refine aW (aF (bV hs [3, 7] mixed (fun w hs => dI 0 rfl (fun w => aC rfl) rfl rfl (dI 1 rfl (fun w => aN rfl) rfl rfl (dI 2 rfl (fun w => aR fo_100_0 rfl) rfl rfl (dJ 3 rfl hs rfl (fun w hs => (aO rfl (aQ k_23 (hs.g 1 rfl) rfl))) rfl (dI 4 rfl (fun w => aC rfl) rfl rfl (dI 5 rfl (fun w => aN rfl) rfl rfl (dI 6 rfl (fun w => aR fo_100_3 rfl) rfl rfl (dJ 7 rfl hs rfl (fun w hs => (aO rfl (aQ cH (hs.g 1 rfl) rfl))) rfl (a_two 8 12 (by decide +kernel) rfl rfl ?_ ?_)))))))))))
     refine cF (cD rfl rfl ok_163 (c_unpackSOA hG hs.isIn hb m.at_ rfl (by omega) (by omega))) rfl (fun v29 w HF => ?_)
     obtain ⟨bcs, e, k, rfl, hc, he, hcl, hcf, hr⟩ := HF
     replace hs := hs.frame hc
     replace hr : (∃ r, k = .ok ∧ body l m.at_ 4 m.hlen = some r ∧ BodyC V 4 0 r bcs) ∨ (k = .other ∧ body l m.at_ 4 m.hlen = none) := by
      rcases hr with ⟨r, h1, h2⟩ | ⟨h1, h2⟩
      exact .inl ⟨r, h1, h2 m.hlen⟩
      exact .inr ⟨h1, h2 m.hlen⟩
     refine ⟨fun h => absurd h (by decide +kernel), dI 9 rfl (fun w => aC rfl) rfl rfl (dI 10 rfl (fun w => aI rfl rfl) rfl rfl (dI 11 rfl (fun w => aI rfl rfl) rfl rfl (dL 12 rfl (aX hs z_173 rfl (fun b4 w hb4 he4 hs => ⟨fun _ => (hs.drop hb4).less, ?_⟩)))))⟩
     rotate_left
     refine aX hs z_173 rfl (fun b4 w hb4 he4 hs => ⟨fun _ => (hs.drop hb4).less, dL 8 rfl (cF (cD rfl rfl ok_163 (c_unpackSOA hG hs.isIn hb m.at_ rfl (by omega) (by omega))) rfl (fun v29 w HF => ?_))⟩)
     obtain ⟨bcs, e, k, rfl, hc, he, hcl, hcf, hr⟩ := HF
     replace hs := hs.frame hc
     replace hr : (∃ r, k = .ok ∧ body l m.at_ 4 m.hlen = some r ∧ BodyC V 4 0 r bcs) ∨ (k = .other ∧ body l m.at_ 4 m.hlen = none) := by
      rcases hr with ⟨r, h1, h2⟩ | ⟨h1, h2⟩
      exact .inl ⟨r, h1, h2 m.hlen⟩
      exact .inr ⟨h1, h2 m.hlen⟩
     refine ⟨fun h => absurd h (by decide +kernel), dI 9 rfl (fun w => aC rfl) rfl rfl (dI 10 rfl (fun w => aI rfl rfl) rfl rfl (dI 11 rfl (fun w => aI rfl rfl) rfl rfl ?_))⟩
     all_goals
      refine dL 13 rfl (dR 0 hs k_173 rfl rfl rfl hcl (by simp) hcf rfl (fun w hs => ⟨fun _ => (hs.drop hb4).less, dI 14 rfl (fun w => aD rfl) rfl rfl (bS (by decide +kernel) (aF (dP (dM rfl rfl (lp (bB he rfl) rfl (aH (bH rfl (fun hc1 => ?_) (fun hc1 => ?_))))))))⟩))
      refine dP (lp (bM (vs := []) (ps := []) rfl bz_173) rfl ?_)
      rw [← hzz]
      refine dM rfl rfl (aJ (dR 1 hs k_173 rfl rfl rfl hzl hzl hzf rfl (fun w hs => dN rfl rfl (aH (aV ⟨_, res2 ⟨_, rfl, aP k_173 (hs.g 1 rfl) hzl⟩ rfl, ?_⟩)))))
      have hno : k = .other ∧ body l m.at_ 4 m.hlen = none := by
       rcases hr with ⟨r, hk, _⟩ | h
       exact absurd hk hc1
       exact h
      obtain ⟨rfl, hno⟩ := hno
      exact ⟨V, _, _, _, .other, none, m, rfl, (hs.drop hb4).drop hb2, dE hcond hno, PR.mk rfl, he, hzl, hzf, fun h => (by cases h), fun _ => rfl⟩
      have hk : k = .ok := by simpa using hc1
      subst hk
      obtain ⟨r, hbd, hBC⟩ : ∃ r, body l m.at_ 4 m.hlen = some r ∧ BodyC V 4 0 r bcs := by
       rcases hr with ⟨r, _, h⟩ | ⟨h, _⟩
       exact ⟨r, h⟩
       cases h
      refine aW (aF (bV hs [3, 7] mixed (fun w hs => dI 0 rfl (fun w => aC rfl) rfl rfl (dI 1 rfl (fun w => aN rfl) rfl rfl (dI 2 rfl (fun w => aR fo_100_3 rfl) rfl rfl (dJ 3 rfl hs rfl (fun w hs => (aO rfl (aQ cH (hs.g 2 rfl) rfl))) rfl (dI 4 rfl (fun w => aC rfl) rfl rfl (dI 5 rfl (fun w => aN rfl) rfl rfl (dI 6 rfl (fun w => aR fo_100_8 rfl) rfl rfl (dJ 7 rfl hs rfl (fun w hs => (aO rfl (aQ k_22 (hs.g 2 rfl) rfl))) rfl (dI 8 rfl (fun w => (bY Tryz.underlying22 Tryz.underlying3 rfl (i64c (c := m.hlen) rfl (by omega)))) rfl rfl (dI 9 rfl (fun w => (bN rfl rfl (i64c (c := m.at_ + m.hlen) (by omega) (by omega)))) rfl rfl (dI 10 rfl (fun w => aN rfl) rfl rfl ?_)))))))))))))
      refine dI 11 rfl (fun w => aR fo_100_3 rfl) rfl rfl (dL 12 rfl (dQ 2 hs cH rfl rfl rfl rfl rfl rfl rfl (fun w hs => ⟨fun h => absurd h (by decide +kernel), bS (by decide +kernel) (dP (dM rfl rfl (lp (aN rfl) rfl (lp (aR fo_100_5 rfl) rfl (aJ (dQ 2 hs k_4 rfl rfl rfl rfl rfl rfl rfl (fun w hs => aH (dP (dM rfl rfl (lp (aN rfl) rfl (lp (aR fo_100_4 rfl) rfl ?_)))))))))))⟩)))
      refine lp (aO rfl (aQ cH (hs.g 2 rfl) rfl)) rfl (lp (bN rfl rfl (i64c (c := m.index + 1) (by omega) (by omega))) rfl (lp (aN rfl) rfl (lp (aR fo_100_4 rfl) rfl (aJ (dQ 2 hs cH rfl rfl rfl rfl rfl rfl rfl (fun w hs => aH (dP (lp (aO rfl (aP k_173 (hs.g 0 rfl) hcl)) rfl (aJ (dR 1 hs k_173 rfl rfl rfl hcl hzl hcf rfl (fun w hs => dN rfl rfl (aH (aV ⟨_, res2 ⟨_, rfl, aP k_173 (hs.g 1 rfl) hcl⟩ rfl, ?_⟩)))))))))))))
      exact ⟨V, _, _, _, .ok, _, _, rfl, (hs.drop hb4).drop hb2, dD hcond hbd, PR.mk rfl, rfl, hcl, hcf, fun _ => ⟨r, hbd, hBC⟩, fun h => absurd rfl h⟩
set_option maxHeartbeats 1000000 in
theorem c_bodyPTR (hG : Gl A V) (hV : V.In w0) (hb : RB V mv l) (hown : w0.heap[bp]? = some (.cells cs.toArray E (0, 0))) (hvn : V bp = none) (hp : PR l mv m cs) (hwf : WF l m) (h2l : l.length ≤ 4294967296) :
  CallsV Tryz.prog 95 #[.pointer (some ⟨bp, 0, none⟩)] w0 fun v w' => ∃ (V' : Vw) (cs' bcs : List Value) (e : Value) (k : EK) (ro : Option PRec) (m' : PM), v = .tuple #[.agg bcs.toArray, e] ∧
   St ⟨w0, V, V'⟩ w' [(bp, .cells cs'.toArray E (0, 0))] ∧ bodyM l m 5 = (k, ro, m') ∧ PR l mv m' cs' ∧ ErrV A e k ∧ bcs.length = 256 ∧ Flat bcs ∧ (k = .ok → ∃ r, body l m.at_ 5 m.hlen = some r ∧ BodyC V' 5 m.htype r bcs) ∧ (k ≠ .ok → bcs = (rep 256 (.int .u8 0))) := by
 have hp' := hp
 have hat := hwf.at_le
 have hhl := hwf.hl
 obtain ⟨m0, x1, x2, x3, x4, x5, x6, rfl, hm0, hx⟩ := hp'
 have hs := St.start1 hV hown (bU _ _) hvn
 have hkt := @kind_type m.htype
 refine aT [_] Tryz.func95 Tryz.ntmps95 Tryz.results95 rfl rfl (dP (aJ (aX hs z_178 rfl (fun b2 w hb2 he2 hs => ?_))))
 obtain ⟨zz, hzz, hzl, hzf, hs⟩ : ∃ zz : List Value, zz = (rep 256 (.int .u8 0)) ∧ zz.length = 256 ∧ Flat zz ∧ St ⟨w0, V, V⟩ w [(b2, .cells zz.toArray 178 (0, 0)), (bp, .cells (parC m0 x1 x2 x3 x4 x5 x6 m).toArray E (0, 0))] := ⟨_, rfl, by simp, aG (by decide +kernel), hs⟩
 refine dN rfl rfl (aH (aF (dG (fun ρ w => Sub (upd (upd (upd emp 17 (.bool (decide (m.valid = false ∨ m.htype ≠ 12)))) 2 (.pointer (some ⟨b2, 0, none⟩))) 0 (.pointer (some ⟨bp, 0, none⟩))) ρ ∧ St ⟨w0, V, V⟩ w [(b2, .cells zz.toArray 178 (0, 0)), (bp, .cells (parC m0 x1 x2 x3 x4 x5 x6 m).toArray E (0, 0))]) ?_ ?_)))
 cases hg : m.valid
 have hg : (!m.valid) = true := by rw [hg]; rfl
 refine aB (dM rfl rfl (lp (aN rfl) rfl (lp (aR fo_100_5 rfl) rfl (lp (aO rfl (aQ k_4 (hs.g 1 rfl) rfl)) rfl (lp (cS rfl) rfl (dM rfl rfl (aU rfl rfl hg rfl (aU rfl rfl hg rfl (aU rfl rfl hg rfl (aU rfl rfl hg rfl (aU rfl rfl hg rfl (lp (bO rfl hg rfl) rfl (aH ?_)))))))))))))
 have hval : (true : Bool) = decide ((false : Bool) = false ∨ m.htype ≠ 12) := by symm; apply decide_eq_true; exact .inl rfl
 exact ⟨aL rfl (aL rfl (aL (congrArg (fun t => some (Value.bool t)) hval) (bG _))), hs⟩
 have hg : (!m.valid) = false := by rw [hg]; rfl
 refine aB (dM rfl rfl (lp (aN rfl) rfl (lp (aR fo_100_5 rfl) rfl (lp (aO rfl (aQ k_4 (hs.g 1 rfl) rfl)) rfl (lp (cS rfl) rfl (dM rfl rfl (lg rfl rfl hg (aC rfl) rfl (lg rfl rfl hg (aN rfl) rfl (lg rfl rfl hg (aR fo_100_7 rfl) rfl (lg rfl rfl hg (aO rfl (aQ k_87 (hs.g 1 rfl) rfl)) rfl (lg rfl rfl hg (po_neq rfl rfl) rfl (lp (bW rfl hg rfl) rfl (aH ?_)))))))))))))
 have hval : decide (((m.htype : Nat) : Int) ≠ 12) = decide ((true : Bool) = false ∨ m.htype ≠ 12) := by apply decide_eq_decide.2; simp; omega
 exact ⟨aL rfl (aL rfl (aL (congrArg (fun t => some (Value.bool t)) hval) (bG _))), hs⟩
 · clear hs
   rintro ρ w ⟨hsub, hs⟩
   refine EW.weaken hsub (bH rfl (fun hc0 => ?_) (fun hc0 => ?_))
   refine aF (bV hs [1] mixed (fun w hs => dI 0 rfl (fun w => (bM (vs := []) (ps := []) rfl bz_178)) rfl rfl ?_))
   rw [← hzz]
   refine dJ 1 rfl hs rfl (fun w hs => (aO rfl (bR k_57 (hG.ld hs.isIn (g := 4) rfl)))) rfl (dL 2 rfl (dR 0 hs k_178 rfl rfl rfl hzl hzl hzf rfl (fun w hs => ⟨fun _ => hs, dI 3 rfl (fun w => aD rfl) rfl rfl (bS (by decide +kernel) (aV ⟨_, res2 ⟨_, rfl, aP k_178 (hs.g 0 rfl) hzl⟩ rfl, ?_⟩))⟩)))
   exact ⟨V, _, _, _, .early, none, m, rfl, hs.drop hb2, bodyM_early (by rcases hc0 with h | h; exact .inl h; exact .inr ⟨by omega, by omega⟩), hp, rfl, hzl, hzf, fun h => (by cases h), fun _ => rfl⟩
   · obtain ⟨hv, hty⟩ : m.valid = true ∧ m.htype = 12 := by
      rcases Classical.em (m.valid = false) with h | h
      exact absurd (.inl h) hc0
      exact ⟨by simpa using h, by rcases Classical.em (m.htype = 12) with h' | h' <;> first | exact h' | exact absurd (.inr h') hc0⟩
     have hcond : ¬ (m.valid = false ∨ (5 ≠ 13 ∧ kindOfType m.htype ≠ 5)) := by
      rintro (h | ⟨h, h'⟩)
      rw [hv] at h; cases h
      omega
     obtain ⟨hs1, hs4⟩ := valid_sec hwf hv
     obtain ⟨rfl, rfl, rfl, rfl, rfl, rfl, rfl⟩ := hx hs1
     have hix := (hwf.idxV hv).1
     have hcn := cW l m.sec
     refine aW (aF (bV hs [3, 7] mixed (fun w hs => dI 0 rfl (fun w => aC rfl) rfl rfl (dI 1 rfl (fun w => aN rfl) rfl rfl (dI 2 rfl (fun w => aR fo_100_0 rfl) rfl rfl (dJ 3 rfl hs rfl (fun w hs => (aO rfl (aQ k_23 (hs.g 1 rfl) rfl))) rfl (dI 4 rfl (fun w => aC rfl) rfl rfl (dI 5 rfl (fun w => aN rfl) rfl rfl (dI 6 rfl (fun w => aR fo_100_3 rfl) rfl rfl (dJ 7 rfl hs rfl (fun w hs => (aO rfl (aQ cH (hs.g 1 rfl) rfl))) rfl (a_two 8 12 (by decide +kernel) rfl rfl ?_ ?_)))))))))))
     refine cF (cD rfl rfl ok_164 (c_unpackPTR hG hs.isIn hb m.at_ rfl (by omega) (by omega))) rfl (fun v29 w HF => ?_)
     obtain ⟨bcs, e, k, rfl, hc, he, hcl, hcf, hr⟩ := HF
     replace hs := hs.frame hc
     replace hr : (∃ r, k = .ok ∧ body l m.at_ 5 m.hlen = some r ∧ BodyC V 5 0 r bcs) ∨ (k = .other ∧ body l m.at_ 5 m.hlen = none) := by
      rcases hr with ⟨r, h1, h2⟩ | ⟨h1, h2⟩
      exact .inl ⟨r, h1, h2 m.hlen⟩
      exact .inr ⟨h1, h2 m.hlen⟩
     refine ⟨fun h => absurd h (by decide +kernel), dI 9 rfl (fun w => aC rfl) rfl rfl (dI 10 rfl (fun w => aI rfl rfl) rfl rfl (dI 11 rfl (fun w => aI rfl rfl) rfl rfl (dL 12 rfl (aX hs z_178 rfl (fun b4 w hb4 he4 hs => ⟨fun _ => (hs.drop hb4).less, ?_⟩)))))⟩
     rotate_left
     refine aX hs z_178 rfl (fun b4 w hb4 he4 hs => ⟨fun _ => (hs.drop hb4).less, dL 8 rfl (cF (cD rfl rfl ok_164 (c_unpackPTR hG hs.isIn hb m.at_ rfl (by omega) (by omega))) rfl (fun v29 w HF => ?_))⟩)
     obtain ⟨bcs, e, k, rfl, hc, he, hcl, hcf, hr⟩ := HF
     replace hs := hs.frame hc
     replace hr : (∃ r, k = .ok ∧ body l m.at_ 5 m.hlen = some r ∧ BodyC V 5 0 r bcs) ∨ (k = .other ∧ body l m.at_ 5 m.hlen = none) := by
      rcases hr with ⟨r, h1, h2⟩ | ⟨h1, h2⟩
      exact .inl ⟨r, h1, h2 m.hlen⟩
      exact .inr ⟨h1, h2 m.hlen⟩
     refine ⟨fun h => absurd h (by decide +kernel), dI 9 rfl (fun w => aC rfl) rfl rfl (dI 10 rfl (fun w => aI rfl rfl) rfl rfl (dI 11 rfl (fun w => aI rfl rfl) rfl rfl ?_))⟩
     all_goals
      refine dL 13 rfl (dR 0 hs k_178 rfl rfl rfl hcl (by simp) hcf rfl (fun w hs => ⟨fun _ => (hs.drop hb4).less, dI 14 rfl (fun w => aD rfl) rfl rfl (bS (by decide +kernel) (aF (dP (dM rfl rfl (lp (bB he rfl) rfl (aH (bH rfl (fun hc1 => ?_) (fun hc1 => ?_))))))))⟩))
      refine dP (lp (bM (vs := []) (ps := []) rfl bz_178) rfl ?_)
      rw [← hzz]
      refine dM rfl rfl (aJ (dR 1 hs k_178 rfl rfl rfl hzl hzl hzf rfl (fun w hs => dN rfl rfl (aH (aV ⟨_, res2 ⟨_, rfl, aP k_178 (hs.g 1 rfl) hzl⟩ rfl, ?_⟩)))))
      have hno : k = .other ∧ body l m.at_ 5 m.hlen = none := by
       rcases hr with ⟨r, hk, _⟩ | h
       exact absurd hk hc1
       exact h
      obtain ⟨rfl, hno⟩ := hno
      exact ⟨V, _, _, _, .other, none, m, rfl, (hs.drop hb4).drop hb2, dE hcond hno, PR.mk rfl, he, hzl, hzf, fun h => (by cases h), fun _ => rfl⟩
      have hk : k = .ok := by simpa using hc1
      subst hk
      obtain ⟨r, hbd, hBC⟩ : ∃ r, body l m.at_ 5 m.hlen = some r ∧ BodyC V 5 0 r bcs := by
       rcases hr with ⟨r, _, h⟩ | ⟨h, _⟩
       exact ⟨r, h⟩
       cases h
      refine aW (aF (bV hs [3, 7] mixed (fun w hs => dI 0 rfl (fun w => aC rfl) rfl rfl (dI 1 rfl (fun w => aN rfl) rfl rfl (dI 2 rfl (fun w => aR fo_100_3 rfl) rfl rfl (dJ 3 rfl hs rfl (fun w hs => (aO rfl (aQ cH (hs.g 2 rfl) rfl))) rfl (dI 4 rfl (fun w => aC rfl) rfl rfl (dI 5 rfl (fun w => aN rfl) rfl rfl (dI 6 rfl (fun w => aR fo_100_8 rfl) rfl rfl (dJ 7 rfl hs rfl (fun w hs => (aO rfl (aQ k_22 (hs.g 2 rfl) rfl))) rfl (dI 8 rfl (fun w => (bY Tryz.underlying22 Tryz.underlying3 rfl (i64c (c := m.hlen) rfl (by omega)))) rfl rfl (dI 9 rfl (fun w => (bN rfl rfl (i64c (c := m.at_ + m.hlen) (by omega) (by omega)))) rfl rfl (dI 10 rfl (fun w => aN rfl) rfl rfl ?_)))))))))))))
      refine dI 11 rfl (fun w => aR fo_100_3 rfl) rfl rfl (dL 12 rfl (dQ 2 hs cH rfl rfl rfl rfl rfl rfl rfl (fun w hs => ⟨fun h => absurd h (by decide +kernel), bS (by decide +kernel) (dP (dM rfl rfl (lp (aN rfl) rfl (lp (aR fo_100_5 rfl) rfl (aJ (dQ 2 hs k_4 rfl rfl rfl rfl rfl rfl rfl (fun w hs => aH (dP (dM rfl rfl (lp (aN rfl) rfl (lp (aR fo_100_4 rfl) rfl ?_)))))))))))⟩)))
      refine lp (aO rfl (aQ cH (hs.g 2 rfl) rfl)) rfl (lp (bN rfl rfl (i64c (c := m.index + 1) (by omega) (by omega))) rfl (lp (aN rfl) rfl (lp (aR fo_100_4 rfl) rfl (aJ (dQ 2 hs cH rfl rfl rfl rfl rfl rfl rfl (fun w hs => aH (dP (lp (aO rfl (aP k_178 (hs.g 0 rfl) hcl)) rfl (aJ (dR 1 hs k_178 rfl rfl rfl hcl hzl hcf rfl (fun w hs => dN rfl rfl (aH (aV ⟨_, res2 ⟨_, rfl, aP k_178 (hs.g 1 rfl) hcl⟩ rfl, ?_⟩)))))))))))))
      exact ⟨V, _, _, _, .ok, _, _, rfl, (hs.drop hb4).drop hb2, dD hcond hbd, PR.mk rfl, rfl, hcl, hcf, fun _ => ⟨r, hbd, hBC⟩, fun h => absurd rfl h⟩
set_option maxHeartbeats 1000000 in
theorem c_bodyMX (hG : Gl A V) (hV : V.In w0) (hb : RB V mv l) (hown : w0.heap[bp]? = some (.cells cs.toArray E (0, 0))) (hvn : V bp = none) (hp : PR l mv m cs) (hwf : WF l m) (h2l : l.length ≤ 4294967296) :
  CallsV Tryz.prog 97 #[.pointer (some ⟨bp, 0, none⟩)] w0 fun v w' => ∃ (V' : Vw) (cs' bcs : List Value) (e : Value) (k : EK) (ro : Option PRec) (m' : PM), v = .tuple #[.agg bcs.toArray, e] ∧
   St ⟨w0, V, V'⟩ w' [(bp, .cells cs'.toArray E (0, 0))] ∧ bodyM l m 6 = (k, ro, m') ∧ PR l mv m' cs' ∧ ErrV A e k ∧ bcs.length = 257 ∧ Flat bcs ∧ (k = .ok → ∃ r, body l m.at_ 6 m.hlen = some r ∧ BodyC V' 6 m.htype r bcs) ∧ (k ≠ .ok → bcs = ([.int .u16 0] ++ rep 256 (.int .u8 0))) := by
 have hp' := hp
 have hat := hwf.at_le
 have hhl := hwf.hl
 obtain ⟨m0, x1, x2, x3, x4, x5, x6, rfl, hm0, hx⟩ := hp'
 have hs := St.start1 hV hown (bU _ _) hvn
 have hkt := @kind_type m.htype
 refine aT [_] Tryz.func97 Tryz.ntmps97 Tryz.results97 rfl rfl (dP (aJ (aX hs z_183 rfl (fun b2 w hb2 he2 hs => ?_))))
 obtain ⟨zz, hzz, hzl, hzf, hs⟩ : ∃ zz : List Value, zz = ([.int .u16 0] ++ rep 256 (.int .u8 0)) ∧ zz.length = 257 ∧ Flat zz ∧ St ⟨w0, V, V⟩ w [(b2, .cells zz.toArray 183 (0, 0)), (bp, .cells (parC m0 x1 x2 x3 x4 x5 x6 m).toArray E (0, 0))] := ⟨_, rfl, by simp, aG (by decide +kernel), hs⟩
 refine dN rfl rfl (aH (aF (dG (fun ρ w => Sub (upd (upd (upd emp 17 (.bool (decide (m.valid = false ∨ m.htype ≠ 15)))) 2 (.pointer (some ⟨b2, 0, none⟩))) 0 (.pointer (some ⟨bp, 0, none⟩))) ρ ∧ St ⟨w0, V, V⟩ w [(b2, .cells zz.toArray 183 (0, 0)), (bp, .cells (parC m0 x1 x2 x3 x4 x5 x6 m).toArray E (0, 0))]) ?_ ?_)))
 cases hg : m.valid
 have hg : (!m.valid) = true := by rw [hg]; rfl
 refine aB (dM rfl rfl (lp (aN rfl) rfl (lp (aR fo_100_5 rfl) rfl (lp (aO rfl (aQ k_4 (hs.g 1 rfl) rfl)) rfl (lp (cS rfl) rfl (dM rfl rfl (aU rfl rfl hg rfl (aU rfl rfl hg rfl (aU rfl rfl hg rfl (aU rfl rfl hg rfl (aU rfl rfl hg rfl (lp (bO rfl hg rfl) rfl (aH ?_)))))))))))))
 have hval : (true : Bool) = decide ((false : Bool) = false ∨ m.htype ≠ 15) := by symm; apply decide_eq_true; exact .inl rfl
 exact ⟨aL rfl (aL rfl (aL (congrArg (fun t => some (Value.bool t)) hval) (bG _))), hs⟩
 have hg : (!m.valid) = false := by rw [hg]; rfl
 refine aB (dM rfl rfl (lp (aN rfl) rfl (lp (aR fo_100_5 rfl) rfl (lp (aO rfl (aQ k_4 (hs.g 1 rfl) rfl)) rfl (lp (cS rfl) rfl (dM rfl rfl (lg rfl rfl hg (aC rfl) rfl (lg rfl rfl hg (aN rfl) rfl (lg rfl rfl hg (aR fo_100_7 rfl) rfl (lg rfl rfl hg (aO rfl (aQ k_87 (hs.g 1 rfl) rfl)) rfl (lg rfl rfl hg (po_neq rfl rfl) rfl (lp (bW rfl hg rfl) rfl (aH ?_)))))))))))))
 have hval : decide (((m.htype : Nat) : Int) ≠ 15) = decide ((true : Bool) = false ∨ m.htype ≠ 15) := by apply decide_eq_decide.2; simp; omega
 exact ⟨aL rfl (aL rfl (aL (congrArg (fun t => some (Value.bool t)) hval) (bG _))), hs⟩
 · clear hs
   rintro ρ w ⟨hsub, hs⟩
   refine EW.weaken hsub (bH rfl (fun hc0 => ?_) (fun hc0 => ?_))
   refine aF (bV hs [1] mixed (fun w hs => dI 0 rfl (fun w => (bM (vs := []) (ps := []) rfl bz_183)) rfl rfl ?_))
   rw [← hzz]
   refine dJ 1 rfl hs rfl (fun w hs => (aO rfl (bR k_57 (hG.ld hs.isIn (g := 4) rfl)))) rfl (dL 2 rfl (dR 0 hs k_183 rfl rfl rfl hzl hzl hzf rfl (fun w hs => ⟨fun _ => hs, dI 3 rfl (fun w => aD rfl) rfl rfl (bS (by decide +kernel) (aV ⟨_, res2 ⟨_, rfl, aP k_183 (hs.g 0 rfl) hzl⟩ rfl, ?_⟩))⟩)))
   exact ⟨V, _, _, _, .early, none, m, rfl, hs.drop hb2, bodyM_early (by rcases hc0 with h | h; exact .inl h; exact .inr ⟨by omega, by omega⟩), hp, rfl, hzl, hzf, fun h => (by cases h), fun _ => rfl⟩
   · obtain ⟨hv, hty⟩ : m.valid = true ∧ m.htype = 15 := by
      rcases Classical.em (m.valid = false) with h | h
      exact absurd (.inl h) hc0
      exact ⟨by simpa using h, by rcases Classical.em (m.htype = 15) with h' | h' <;> first | exact h' | exact absurd (.inr h') hc0⟩
     have hcond : ¬ (m.valid = false ∨ (6 ≠ 13 ∧ kindOfType m.htype ≠ 6)) := by
      rintro (h | ⟨h, h'⟩)
      rw [hv] at h; cases h
      omega
     obtain ⟨hs1, hs4⟩ := valid_sec hwf hv
     obtain ⟨rfl, rfl, rfl, rfl, rfl, rfl, rfl⟩ := hx hs1
     have hix := (hwf.idxV hv).1
     have hcn := cW l m.sec
     refine aW (aF (bV hs [3, 7] mixed (fun w hs => dI 0 rfl (fun w => aC rfl) rfl rfl (dI 1 rfl (fun w => aN rfl) rfl rfl (dI 2 rfl (fun w => aR fo_100_0 rfl) rfl rfl (dJ 3 rfl hs rfl (fun w hs => (aO rfl (aQ k_23 (hs.g 1 rfl) rfl))) rfl (dI 4 rfl (fun w => aC rfl) rfl rfl (dI 5 rfl (fun w => aN rfl) rfl rfl (dI 6 rfl (fun w => aR fo_100_3 rfl) rfl rfl (dJ 7 rfl hs rfl (fun w hs => (aO rfl (aQ cH (hs.g 1 rfl) rfl))) rfl (a_two 8 12 (by decide +kernel) rfl rfl ?_ ?_)))))))))))
     refine cF (cD rfl rfl ok_165 (c_unpackMX hG hs.isIn hb m.at_ rfl (by omega) (by omega))) rfl (fun v29 w HF => ?_)
     obtain ⟨bcs, e, k, rfl, hc, he, hcl, hcf, hr⟩ := HF
     replace hs := hs.frame hc
     replace hr : (∃ r, k = .ok ∧ body l m.at_ 6 m.hlen = some r ∧ BodyC V 6 0 r bcs) ∨ (k = .other ∧ body l m.at_ 6 m.hlen = none) := by
      rcases hr with ⟨r, h1, h2⟩ | ⟨h1, h2⟩
      exact .inl ⟨r, h1, h2 m.hlen⟩
      exact .inr ⟨h1, h2 m.hlen⟩
     refine ⟨fun h => absurd h (by decide +kernel), dI 9 rfl (fun w => aC rfl) rfl rfl (dI 10 rfl (fun w => aI rfl rfl) rfl rfl (dI 11 rfl (fun w => aI rfl rfl) rfl rfl (dL 12 rfl (aX hs z_183 rfl (fun b4 w hb4 he4 hs => ⟨fun _ => (hs.drop hb4).less, ?_⟩)))))⟩
     rotate_left
     refine aX hs z_183 rfl (fun b4 w hb4 he4 hs => ⟨fun _ => (hs.drop hb4).less, dL 8 rfl (cF (cD rfl rfl ok_165 (c_unpackMX hG hs.isIn hb m.at_ rfl (by omega) (by omega))) rfl (fun v29 w HF => ?_))⟩)
     obtain ⟨bcs, e, k, rfl, hc, he, hcl, hcf, hr⟩ := HF
     replace hs := hs.frame hc
     replace hr : (∃ r, k = .ok ∧ body l m.at_ 6 m.hlen = some r ∧ BodyC V 6 0 r bcs) ∨ (k = .other ∧ body l m.at_ 6 m.hlen = none) := by
      rcases hr with ⟨r, h1, h2⟩ | ⟨h1, h2⟩
      exact .inl ⟨r, h1, h2 m.hlen⟩
      exact .inr ⟨h1, h2 m.hlen⟩
     refine ⟨fun h => absurd h (by decide +kernel), dI 9 rfl (fun w => aC rfl) rfl rfl (dI 10 rfl (fun w => aI rfl rfl) rfl rfl (dI 11 rfl (fun w => aI rfl rfl) rfl rfl ?_))⟩
     all_goals
      refine dL 13 rfl (dR 0 hs k_183 rfl rfl rfl hcl (by simp) hcf rfl (fun w hs => ⟨fun _ => (hs.drop hb4).less, dI 14 rfl (fun w => aD rfl) rfl rfl (bS (by decide +kernel) (aF (dP (dM rfl rfl (lp (bB he rfl) rfl (aH (bH rfl (fun hc1 => ?_) (fun hc1 => ?_))))))))⟩))
      refine dP (lp (bM (vs := []) (ps := []) rfl bz_183) rfl ?_)
      rw [← hzz]
      refine dM rfl rfl (aJ (dR 1 hs k_183 rfl rfl rfl hzl hzl hzf rfl (fun w hs => dN rfl rfl (aH (aV ⟨_, res2 ⟨_, rfl, aP k_183 (hs.g 1 rfl) hzl⟩ rfl, ?_⟩)))))
      have hno : k = .other ∧ body l m.at_ 6 m.hlen = none := by
       rcases hr with ⟨r, hk, _⟩ | h
       exact absurd hk hc1
       exact h
      obtain ⟨rfl, hno⟩ := hno
      exact ⟨V, _, _, _, .other, none, m, rfl, (hs.drop hb4).drop hb2, dE hcond hno, PR.mk rfl, he, hzl, hzf, fun h => (by cases h), fun _ => rfl⟩
      have hk : k = .ok := by simpa using hc1
      subst hk
      obtain ⟨r, hbd, hBC⟩ : ∃ r, body l m.at_ 6 m.hlen = some r ∧ BodyC V 6 0 r bcs := by
       rcases hr with ⟨r, _, h⟩ | ⟨h, _⟩
       exact ⟨r, h⟩
       cases h
      refine aW (aF (bV hs [3, 7] mixed (fun w hs => dI 0 rfl (fun w => aC rfl) rfl rfl (dI 1 rfl (fun w => aN rfl) rfl rfl (dI 2 rfl (fun w => aR fo_100_3 rfl) rfl rfl (dJ 3 rfl hs rfl (fun w hs => (aO rfl (aQ cH (hs.g 2 rfl) rfl))) rfl (dI 4 rfl (fun w => aC rfl) rfl rfl (dI 5 rfl (fun w => aN rfl) rfl rfl (dI 6 rfl (fun w => aR fo_100_8 rfl) rfl rfl (dJ 7 rfl hs rfl (fun w hs => (aO rfl (aQ k_22 (hs.g 2 rfl) rfl))) rfl (dI 8 rfl (fun w => (bY Tryz.underlying22 Tryz.underlying3 rfl (i64c (c := m.hlen) rfl (by omega)))) rfl rfl (dI 9 rfl (fun w => (bN rfl rfl (i64c (c := m.at_ + m.hlen) (by omega) (by omega)))) rfl rfl (dI 10 rfl (fun w => aN rfl) rfl rfl ?_)))))))))))))
      refine dI 11 rfl (fun w => aR fo_100_3 rfl) rfl rfl (dL 12 rfl (dQ 2 hs cH rfl rfl rfl rfl rfl rfl rfl (fun w hs => ⟨fun h => absurd h (by decide +kernel), bS (by decide +kernel) (dP (dM rfl rfl (lp (aN rfl) rfl (lp (aR fo_100_5 rfl) rfl (aJ (dQ 2 hs k_4 rfl rfl rfl rfl rfl rfl rfl (fun w hs => aH (dP (dM rfl rfl (lp (aN rfl) rfl (lp (aR fo_100_4 rfl) rfl ?_)))))))))))⟩)))
      refine lp (aO rfl (aQ cH (hs.g 2 rfl) rfl)) rfl (lp (bN rfl rfl (i64c (c := m.index + 1) (by omega) (by omega))) rfl (lp (aN rfl) rfl (lp (aR fo_100_4 rfl) rfl (aJ (dQ 2 hs cH rfl rfl rfl rfl rfl rfl rfl (fun w hs => aH (dP (lp (aO rfl (aP k_183 (hs.g 0 rfl) hcl)) rfl (aJ (dR 1 hs k_183 rfl rfl rfl hcl hzl hcf rfl (fun w hs => dN rfl rfl (aH (aV ⟨_, res2 ⟨_, rfl, aP k_183 (hs.g 1 rfl) hcl⟩ rfl, ?_⟩)))))))))))))
      exact ⟨V, _, _, _, .ok, _, _, rfl, (hs.drop hb4).drop hb2, dD hcond hbd, PR.mk rfl, rfl, hcl, hcf, fun _ => ⟨r, hbd, hBC⟩, fun h => absurd rfl h⟩
set_option maxHeartbeats 1000000 in
theorem c_bodyTXT (hG : Gl A V) (hV : V.In w0) (hb : RB V mv l) (hown : w0.heap[bp]? = some (.cells cs.toArray E (0, 0))) (hvn : V bp = none) (hp : PR l mv m cs) (hwf : WF l m) (h2l : l.length ≤ 4294967296) :
  CallsV Tryz.prog 99 #[.pointer (some ⟨bp, 0, none⟩)] w0 fun v w' => ∃ (V' : Vw) (cs' bcs : List Value) (e : Value) (k : EK) (ro : Option PRec) (m' : PM), v = .tuple #[.agg bcs.toArray, e] ∧
   St ⟨w0, V, V'⟩ w' [(bp, .cells cs'.toArray E (0, 0))] ∧ bodyM l m 7 = (k, ro, m') ∧ PR l mv m' cs' ∧ ErrV A e k ∧ bcs.length = 1 ∧ Flat bcs ∧ (k = .ok → ∃ r, body l m.at_ 7 m.hlen = some r ∧ BodyC V' 7 m.htype r bcs) ∧ (k ≠ .ok → bcs = ([.slice none 0 0])) := by
 have hp' := hp
 have hat := hwf.at_le
 have hhl := hwf.hl
 obtain ⟨m0, x1, x2, x3, x4, x5, x6, rfl, hm0, hx⟩ := hp'
 have hs := St.start1 hV hown (bU _ _) hvn
 have hkt := @kind_type m.htype
 refine aT [_] Tryz.func99 Tryz.ntmps99 Tryz.results99 rfl rfl (dP (aJ (aX hs z_188 rfl (fun b2 w hb2 he2 hs => ?_))))
 obtain ⟨zz, hzz, hzl, hzf, hs⟩ : ∃ zz : List Value, zz = ([.slice none 0 0]) ∧ zz.length = 1 ∧ Flat zz ∧ St ⟨w0, V, V⟩ w [(b2, .cells zz.toArray 188 (0, 0)), (bp, .cells (parC m0 x1 x2 x3 x4 x5 x6 m).toArray E (0, 0))] := ⟨_, rfl, by simp, aG (by decide +kernel), hs⟩
 refine dN rfl rfl (aH (aF (dG (fun ρ w => Sub (upd (upd (upd emp 17 (.bool (decide (m.valid = false ∨ m.htype ≠ 16)))) 2 (.pointer (some ⟨b2, 0, none⟩))) 0 (.pointer (some ⟨bp, 0, none⟩))) ρ ∧ St ⟨w0, V, V⟩ w [(b2, .cells zz.toArray 188 (0, 0)), (bp, .cells (parC m0 x1 x2 x3 x4 x5 x6 m).toArray E (0, 0))]) ?_ ?_)))
 cases hg : m.valid
 have hg : (!m.valid) = true := by rw [hg]; rfl
 refine aB (dM rfl rfl (lp (aN rfl) rfl (lp (aR fo_100_5 rfl) rfl (lp (aO rfl (aQ k_4 (hs.g 1 rfl) rfl)) rfl (lp (cS rfl) rfl (dM rfl rfl (aU rfl rfl hg rfl (aU rfl rfl hg rfl (aU rfl rfl hg rfl (aU rfl rfl hg rfl (aU rfl rfl hg rfl (lp (bO rfl hg rfl) rfl (aH ?_)))))))))))))
 have hval : (true : Bool) = decide ((false : Bool) = false ∨ m.htype ≠ 16) := by symm; apply decide_eq_true; exact .inl rfl
 exact ⟨aL rfl (aL rfl (aL (congrArg (fun t => some (Value.bool t)) hval) (bG _))), hs⟩
 have hg : (!m.valid) = false := by rw [hg]; rfl
 refine aB (dM rfl rfl (lp (aN rfl) rfl (lp (aR fo_100_5 rfl) rfl (lp (aO rfl (aQ k_4 (hs.g 1 rfl) rfl)) rfl (lp (cS rfl) rfl (dM rfl rfl (lg rfl rfl hg (aC rfl) rfl (lg rfl rfl hg (aN rfl) rfl (lg rfl rfl hg (aR fo_100_7 rfl) rfl (lg rfl rfl hg (aO rfl (aQ k_87 (hs.g 1 rfl) rfl)) rfl (lg rfl rfl hg (po_neq rfl rfl) rfl (lp (bW rfl hg rfl) rfl (aH ?_)))))))))))))
 have hval : decide (((m.htype : Nat) : Int) ≠ 16) = decide ((true : Bool) = false ∨ m.htype ≠ 16) := by apply decide_eq_decide.2; simp; omega
 exact ⟨aL rfl (aL rfl (aL (congrArg (fun t => some (Value.bool t)) hval) (bG _))), hs⟩
 · clear hs
   rintro ρ w ⟨hsub, hs⟩
   refine EW.weaken hsub (bH rfl (fun hc0 => ?_) (fun hc0 => ?_))
   refine aF (bV hs [1] mixed (fun w hs => dI 0 rfl (fun w => (bM (vs := []) (ps := []) rfl bz_188)) rfl rfl ?_))
   rw [← hzz]
   refine dJ 1 rfl hs rfl (fun w hs => (aO rfl (bR k_57 (hG.ld hs.isIn (g := 4) rfl)))) rfl (dL 2 rfl (dR 0 hs k_188 rfl rfl rfl hzl hzl hzf rfl (fun w hs => ⟨fun _ => hs, dI 3 rfl (fun w => aD rfl) rfl rfl (bS (by decide +kernel) (aV ⟨_, res2 ⟨_, rfl, aP k_188 (hs.g 0 rfl) hzl⟩ rfl, ?_⟩))⟩)))
   exact ⟨V, _, _, _, .early, none, m, rfl, hs.drop hb2, bodyM_early (by rcases hc0 with h | h; exact .inl h; exact .inr ⟨by omega, by omega⟩), hp, rfl, hzl, hzf, fun h => (by cases h), fun _ => rfl⟩
   · obtain ⟨hv, hty⟩ : m.valid = true ∧ m.htype = 16 := by
      rcases Classical.em (m.valid = false) with h | h
      exact absurd (.inl h) hc0
      exact ⟨by simpa using h, by rcases Classical.em (m.htype = 16) with h' | h' <;> first | exact h' | exact absurd (.inr h') hc0⟩
     have hcond : ¬ (m.valid = false ∨ (7 ≠ 13 ∧ kindOfType m.htype ≠ 7)) := by
      rintro (h | ⟨h, h'⟩)
      rw [hv] at h; cases h
      omega
     obtain ⟨hs1, hs4⟩ := valid_sec hwf hv
     obtain ⟨rfl, rfl, rfl, rfl, rfl, rfl, rfl⟩ := hx hs1
     have hix := (hwf.idxV hv).1
     have hcn := cW l m.sec
     refine aW (aF (bV hs [3, 7, 11] mixed (fun w hs => dI 0 rfl (fun w => aC rfl) rfl rfl (dI 1 rfl (fun w => aN rfl) rfl rfl (dI 2 rfl (fun w => aR fo_100_0 rfl) rfl rfl (dJ 3 rfl hs rfl (fun w hs => (aO rfl (aQ k_23 (hs.g 1 rfl) rfl))) rfl (dI 4 rfl (fun w => aC rfl) rfl rfl (dI 5 rfl (fun w => aN rfl) rfl rfl (dI 6 rfl (fun w => aR fo_100_3 rfl) rfl rfl (dJ 7 rfl hs rfl (fun w hs => (aO rfl (aQ cH (hs.g 1 rfl) rfl))) rfl (dI 8 rfl (fun w => aC rfl) rfl rfl (dI 9 rfl (fun w => aN rfl) rfl rfl (dI 10 rfl (fun w => aR fo_100_8 rfl) rfl rfl ?_)))))))))))))
     refine dJ 11 rfl hs rfl (fun w hs => (aO rfl (aQ k_22 (hs.g 1 rfl) rfl))) rfl (a_two 12 16 (by decide +kernel) rfl rfl ?_ ?_)
     refine cF (cD rfl rfl ok_166 (c_unpackTXT hG hs.isIn hb m.hlen rfl hhl m.at_ rfl (by omega) (by omega))) rfl (fun v33 w HF => ?_)
     obtain ⟨V', bcs, e, k, rfl, hc, he, hcl, hcf, hr⟩ := HF
     replace hs := hs.frame hc
     refine ⟨fun h => absurd h (by decide +kernel), dI 13 rfl (fun w => aC rfl) rfl rfl (dI 14 rfl (fun w => aI rfl rfl) rfl rfl (dI 15 rfl (fun w => aI rfl rfl) rfl rfl (dL 16 rfl (aX hs z_188 rfl (fun b4 w hb4 he4 hs => ⟨fun _ => (hs.drop hb4).less, ?_⟩)))))⟩
     rotate_left
     refine aX hs z_188 rfl (fun b4 w hb4 he4 hs => ⟨fun _ => (hs.drop hb4).less, dL 12 rfl (cF (cD rfl rfl ok_166 (c_unpackTXT hG hs.isIn hb m.hlen rfl hhl m.at_ rfl (by omega) (by omega))) rfl (fun v33 w HF => ?_))⟩)
     obtain ⟨V', bcs, e, k, rfl, hc, he, hcl, hcf, hr⟩ := HF
     replace hs := hs.frame hc
     refine ⟨fun h => absurd h (by decide +kernel), dI 13 rfl (fun w => aC rfl) rfl rfl (dI 14 rfl (fun w => aI rfl rfl) rfl rfl (dI 15 rfl (fun w => aI rfl rfl) rfl rfl ?_))⟩
     all_goals
      refine dL 17 rfl (dR 0 hs k_188 rfl rfl rfl hcl (by simp) hcf rfl (fun w hs => ⟨fun _ => (hs.drop hb4).less, dI 18 rfl (fun w => aD rfl) rfl rfl (bS (by decide +kernel) (aF (dP (dM rfl rfl (lp (bB he rfl) rfl (aH (bH rfl (fun hc1 => ?_) (fun hc1 => ?_))))))))⟩))
      refine dP (lp (bM (vs := []) (ps := []) rfl bz_188) rfl ?_)
      rw [← hzz]
      refine dM rfl rfl (aJ (dR 1 hs k_188 rfl rfl rfl hzl hzl hzf rfl (fun w hs => dN rfl rfl (aH (aV ⟨_, res2 ⟨_, rfl, aP k_188 (hs.g 1 rfl) hzl⟩ rfl, ?_⟩)))))
      have hno : k = .other ∧ body l m.at_ 7 m.hlen = none := by
       rcases hr with ⟨r, hk, _⟩ | h
       exact absurd hk hc1
       exact h
      obtain ⟨rfl, hno⟩ := hno
      exact ⟨V', _, _, _, .other, none, m, rfl, (hs.drop hb4).drop hb2, dE hcond hno, PR.mk rfl, he, hzl, hzf, fun h => (by cases h), fun _ => rfl⟩
      have hk : k = .ok := by simpa using hc1
      subst hk
      obtain ⟨r, hbd, hBC⟩ : ∃ r, body l m.at_ 7 m.hlen = some r ∧ BodyC V' 7 0 r bcs := by
       rcases hr with ⟨r, _, h⟩ | ⟨h, _⟩
       exact ⟨r, h⟩
       cases h
      refine aW (aF (bV hs [3, 7] mixed (fun w hs => dI 0 rfl (fun w => aC rfl) rfl rfl (dI 1 rfl (fun w => aN rfl) rfl rfl (dI 2 rfl (fun w => aR fo_100_3 rfl) rfl rfl (dJ 3 rfl hs rfl (fun w hs => (aO rfl (aQ cH (hs.g 2 rfl) rfl))) rfl (dI 4 rfl (fun w => aC rfl) rfl rfl (dI 5 rfl (fun w => aN rfl) rfl rfl (dI 6 rfl (fun w => aR fo_100_8 rfl) rfl rfl (dJ 7 rfl hs rfl (fun w hs => (aO rfl (aQ k_22 (hs.g 2 rfl) rfl))) rfl (dI 8 rfl (fun w => (bY Tryz.underlying22 Tryz.underlying3 rfl (i64c (c := m.hlen) rfl (by omega)))) rfl rfl (dI 9 rfl (fun w => (bN rfl rfl (i64c (c := m.at_ + m.hlen) (by omega) (by omega)))) rfl rfl (dI 10 rfl (fun w => aN rfl) rfl rfl ?_)))))))))))))
      refine dI 11 rfl (fun w => aR fo_100_3 rfl) rfl rfl (dL 12 rfl (dQ 2 hs cH rfl rfl rfl rfl rfl rfl rfl (fun w hs => ⟨fun h => absurd h (by decide +kernel), bS (by decide +kernel) (dP (dM rfl rfl (lp (aN rfl) rfl (lp (aR fo_100_5 rfl) rfl (aJ (dQ 2 hs k_4 rfl rfl rfl rfl rfl rfl rfl (fun w hs => aH (dP (dM rfl rfl (lp (aN rfl) rfl (lp (aR fo_100_4 rfl) rfl ?_)))))))))))⟩)))
      refine lp (aO rfl (aQ cH (hs.g 2 rfl) rfl)) rfl (lp (bN rfl rfl (i64c (c := m.index + 1) (by omega) (by omega))) rfl (lp (aN rfl) rfl (lp (aR fo_100_4 rfl) rfl (aJ (dQ 2 hs cH rfl rfl rfl rfl rfl rfl rfl (fun w hs => aH (dP (lp (aO rfl (aP k_188 (hs.g 0 rfl) hcl)) rfl (aJ (dR 1 hs k_188 rfl rfl rfl hcl hzl hcf rfl (fun w hs => dN rfl rfl (aH (aV ⟨_, res2 ⟨_, rfl, aP k_188 (hs.g 1 rfl) hcl⟩ rfl, ?_⟩)))))))))))))
      exact ⟨V', _, _, _, .ok, _, _, rfl, (hs.drop hb4).drop hb2, dD hcond hbd, PR.mk rfl, rfl, hcl, hcf, fun _ => ⟨r, hbd, hBC⟩, fun h => absurd rfl h⟩
set_option maxHeartbeats 1000000 in
theorem c_bodyAAAA (hG : Gl A V) (hV : V.In w0) (hb : RB V mv l) (hown : w0.heap[bp]? = some (.cells cs.toArray E (0, 0))) (hvn : V bp = none) (hp : PR l mv m cs) (hwf : WF l m) (h2l : l.length ≤ 4294967296) :
  CallsV Tryz.prog 101 #[.pointer (some ⟨bp, 0, none⟩)] w0 fun v w' => ∃ (V' : Vw) (cs' bcs : List Value) (e : Value) (k : EK) (ro : Option PRec) (m' : PM), v = .tuple #[.agg bcs.toArray, e] ∧
   St ⟨w0, V, V'⟩ w' [(bp, .cells cs'.toArray E (0, 0))] ∧ bodyM l m 8 = (k, ro, m') ∧ PR l mv m' cs' ∧ ErrV A e k ∧ bcs.length = 16 ∧ Flat bcs ∧ (k = .ok → ∃ r, body l m.at_ 8 m.hlen = some r ∧ BodyC V' 8 m.htype r bcs) ∧ (k ≠ .ok → bcs = (rep 16 (.int .u8 0))) := by
 have hp' := hp
 have hat := hwf.at_le
 have hhl := hwf.hl
 obtain ⟨m0, x1, x2, x3, x4, x5, x6, rfl, hm0, hx⟩ := hp'
 have hs := St.start1 hV hown (bU _ _) hvn
 have hkt := @kind_type m.htype
 refine aT [_] Tryz.func101 Tryz.ntmps101 Tryz.results101 rfl rfl (dP (aJ (aX hs z_194 rfl (fun b2 w hb2 he2 hs => ?_))))
 obtain ⟨zz, hzz, hzl, hzf, hs⟩ : ∃ zz : List Value, zz = (rep 16 (.int .u8 0)) ∧ zz.length = 16 ∧ Flat zz ∧ St ⟨w0, V, V⟩ w [(b2, .cells zz.toArray 194 (0, 0)), (bp, .cells (parC m0 x1 x2 x3 x4 x5 x6 m).toArray E (0, 0))] := ⟨_, rfl, by simp, aG (by decide +kernel), hs⟩
 refine dN rfl rfl (aH (aF (dG (fun ρ w => Sub (upd (upd (upd emp 17 (.bool (decide (m.valid = false ∨ m.htype ≠ 28)))) 2 (.pointer (some ⟨b2, 0, none⟩))) 0 (.pointer (some ⟨bp, 0, none⟩))) ρ ∧ St ⟨w0, V, V⟩ w [(b2, .cells zz.toArray 194 (0, 0)), (bp, .cells (parC m0 x1 x2 x3 x4 x5 x6 m).toArray E (0, 0))]) ?_ ?_)))
 cases hg : m.valid
 have hg : (!m.valid) = true := by rw [hg]; rfl
 refine aB (dM rfl rfl (lp (aN rfl) rfl (lp (aR fo_100_5 rfl) rfl (lp (aO rfl (aQ k_4 (hs.g 1 rfl) rfl)) rfl (lp (cS rfl) rfl (dM rfl rfl (aU rfl rfl hg rfl (aU rfl rfl hg rfl (aU rfl rfl hg rfl (aU rfl rfl hg rfl (aU rfl rfl hg rfl (lp (bO rfl hg rfl) rfl (aH ?_)))))))))))))
 have hval : (true : Bool) = decide ((false : Bool) = false ∨ m.htype ≠ 28) := by symm; apply decide_eq_true; exact .inl rfl
 exact ⟨aL rfl (aL rfl (aL (congrArg (fun t => some (Value.bool t)) hval) (bG _))), hs⟩
 have hg : (!m.valid) = false := by rw [hg]; rfl
 refine aB (dM rfl rfl (lp (aN rfl) rfl (lp (aR fo_100_5 rfl) rfl (lp (aO rfl (aQ k_4 (hs.g 1 rfl) rfl)) rfl (lp (cS rfl) rfl (dM rfl rfl (lg rfl rfl hg (aC rfl) rfl (lg rfl rfl hg (aN rfl) rfl (lg rfl rfl hg (aR fo_100_7 rfl) rfl (lg rfl rfl hg (aO rfl (aQ k_87 (hs.g 1 rfl) rfl)) rfl (lg rfl rfl hg (po_neq rfl rfl) rfl (lp (bW rfl hg rfl) rfl (aH ?_)))))))))))))
 have hval : decide (((m.htype : Nat) : Int) ≠ 28) = decide ((true : Bool) = false ∨ m.htype ≠ 28) := by apply decide_eq_decide.2; simp; omega
 exact ⟨aL rfl (aL rfl (aL (congrArg (fun t => some (Value.bool t)) hval) (bG _))), hs⟩
 · clear hs
   rintro ρ w ⟨hsub, hs⟩
   refine EW.weaken hsub (bH rfl (fun hc0 => ?_) (fun hc0 => ?_))
   refine aF (bV hs [1] mixed (fun w hs => dI 0 rfl (fun w => (bM (vs := []) (ps := []) rfl bz_194)) rfl rfl ?_))
   rw [← hzz]
   refine dJ 1 rfl hs rfl (fun w hs => (aO rfl (bR k_57 (hG.ld hs.isIn (g := 4) rfl)))) rfl (dL 2 rfl (dR 0 hs k_194 rfl rfl rfl hzl hzl hzf rfl (fun w hs => ⟨fun _ => hs, dI 3 rfl (fun w => aD rfl) rfl rfl (bS (by decide +kernel) (aV ⟨_, res2 ⟨_, rfl, aP k_194 (hs.g 0 rfl) hzl⟩ rfl, ?_⟩))⟩)))
   exact ⟨V, _, _, _, .early, none, m, rfl, hs.drop hb2, bodyM_early (by rcases hc0 with h | h; exact .inl h; exact .inr ⟨by omega, by omega⟩), hp, rfl, hzl, hzf, fun h => (by cases h), fun _ => rfl⟩
   · obtain ⟨hv, hty⟩ : m.valid = true ∧ m.htype = 28 := by
      rcases Classical.em (m.valid = false) with h | h
      exact absurd (.inl h) hc0
      exact ⟨by simpa using h, by rcases Classical.em (m.htype = 28) with h' | h' <;> first | exact h' | exact absurd (.inr h') hc0⟩
     have hcond : ¬ (m.valid = false ∨ (8 ≠ 13 ∧ kindOfType m.htype ≠ 8)) := by
      rintro (h | ⟨h, h'⟩)
      rw [hv] at h; cases h
      omega
     obtain ⟨hs1, hs4⟩ := valid_sec hwf hv
     obtain ⟨rfl, rfl, rfl, rfl, rfl, rfl, rfl⟩ := hx hs1
     have hix := (hwf.idxV hv).1
     have hcn := cW l m.sec
     refine aW (aF (bV hs [3, 7] mixed (fun w hs => dI 0 rfl (fun w => aC rfl) rfl rfl (dI 1 rfl (fun w => aN rfl) rfl rfl (dI 2 rfl (fun w => aR fo_100_0 rfl) rfl rfl (dJ 3 rfl hs rfl (fun w hs => (aO rfl (aQ k_23 (hs.g 1 rfl) rfl))) rfl (dI 4 rfl (fun w => aC rfl) rfl rfl (dI 5 rfl (fun w => aN rfl) rfl rfl (dI 6 rfl (fun w => aR fo_100_3 rfl) rfl rfl (dJ 7 rfl hs rfl (fun w hs => (aO rfl (aQ cH (hs.g 1 rfl) rfl))) rfl (a_two 8 12 (by decide +kernel) rfl rfl ?_ ?_)))))))))))
     refine cF (cD rfl rfl ok_167 (c_unpackAAAA hG hs.isIn hb m.at_ rfl (by omega) (by omega))) rfl (fun v29 w HF => ?_)
     obtain ⟨bcs, e, k, rfl, hc, he, hcl, hcf, hr⟩ := HF
     replace hs := hs.frame hc
     replace hr : (∃ r, k = .ok ∧ body l m.at_ 8 m.hlen = some r ∧ BodyC V 8 0 r bcs) ∨ (k = .other ∧ body l m.at_ 8 m.hlen = none) := by
      rcases hr with ⟨r, h1, h2⟩ | ⟨h1, h2⟩
      exact .inl ⟨r, h1, h2 m.hlen⟩
      exact .inr ⟨h1, h2 m.hlen⟩
     refine ⟨fun h => absurd h (by decide +kernel), dI 9 rfl (fun w => aC rfl) rfl rfl (dI 10 rfl (fun w => aI rfl rfl) rfl rfl (dI 11 rfl (fun w => aI rfl rfl) rfl rfl (dL 12 rfl (aX hs z_194 rfl (fun b4 w hb4 he4 hs => ⟨fun _ => (hs.drop hb4).less, ?_⟩)))))⟩
     rotate_left
     refine aX hs z_194 rfl (fun b4 w hb4 he4 hs => ⟨fun _ => (hs.drop hb4).less, dL 8 rfl (cF (cD rfl rfl ok_167 (c_unpackAAAA hG hs.isIn hb m.at_ rfl (by omega) (by omega))) rfl (fun v29 w HF => ?_))⟩)
     obtain ⟨bcs, e, k, rfl, hc, he, hcl, hcf, hr⟩ := HF
     replace hs := hs.frame hc
     replace hr : (∃ r, k = .ok ∧ body l m.at_ 8 m.hlen = some r ∧ BodyC V 8 0 r bcs) ∨ (k = .other ∧ body l m.at_ 8 m.hlen = none) := by
      rcases hr with ⟨r, h1, h2⟩ | ⟨h1, h2⟩
      exact .inl ⟨r, h1, h2 m.hlen⟩
      exact .inr ⟨h1, h2 m.hlen⟩
     refine ⟨fun h => absurd h (by decide +kernel), dI 9 rfl (fun w => aC rfl) rfl rfl (dI 10 rfl (fun w => aI rfl rfl) rfl rfl (dI 11 rfl (fun w => aI rfl rfl) rfl rfl ?_))⟩
     all_goals
      refine dL 13 rfl (dR 0 hs k_194 rfl rfl rfl hcl (by simp) hcf rfl (fun w hs => ⟨fun _ => (hs.drop hb4).less, dI 14 rfl (fun w => aD rfl) rfl rfl (bS (by decide +kernel) (aF (dP (dM rfl rfl (lp (bB he rfl) rfl (aH (bH rfl (fun hc1 => ?_) (fun hc1 => ?_))))))))⟩))
      refine dP (lp (bM (vs := []) (ps := []) rfl bz_194) rfl ?_)
      rw [← hzz]
      refine dM rfl rfl (aJ (dR 1 hs k_194 rfl rfl rfl hzl hzl hzf rfl (fun w hs => dN rfl rfl (aH (aV ⟨_, res2 ⟨_, rfl, aP k_194 (hs.g 1 rfl) hzl⟩ rfl, ?_⟩)))))
      have hno : k = .other ∧ body l m.at_ 8 m.hlen = none := by
       rcases hr with ⟨r, hk, _⟩ | h
       exact absurd hk hc1
       exact h
      obtain ⟨rfl, hno⟩ := hno
      exact ⟨V, _, _, _, .other, none, m, rfl, (hs.drop hb4).drop hb2, dE hcond hno, PR.mk rfl, he, hzl, hzf, fun h => (by cases h), fun _ => rfl⟩
      have hk : k = .ok := by simpa using hc1
      subst hk
      obtain ⟨r, hbd, hBC⟩ : ∃ r, body l m.at_ 8 m.hlen = some r ∧ BodyC V 8 0 r bcs := by
       rcases hr with ⟨r, _, h⟩ | ⟨h, _⟩
       exact ⟨r, h⟩
       cases h
      refine aW (aF (bV hs [3, 7] mixed (fun w hs => dI 0 rfl (fun w => aC rfl) rfl rfl (dI 1 rfl (fun w => aN rfl) rfl rfl (dI 2 rfl (fun w => aR fo_100_3 rfl) rfl rfl (dJ 3 rfl hs rfl (fun w hs => (aO rfl (aQ cH (hs.g 2 rfl) rfl))) rfl (dI 4 rfl (fun w => aC rfl) rfl rfl (dI 5 rfl (fun w => aN rfl) rfl rfl (dI 6 rfl (fun w => aR fo_100_8 rfl) rfl rfl (dJ 7 rfl hs rfl (fun w hs => (aO rfl (aQ k_22 (hs.g 2 rfl) rfl))) rfl (dI 8 rfl (fun w => (bY Tryz.underlying22 Tryz.underlying3 rfl (i64c (c := m.hlen) rfl (by omega)))) rfl rfl (dI 9 rfl (fun w => (bN rfl rfl (i64c (c := m.at_ + m.hlen) (by omega) (by omega)))) rfl rfl (dI 10 rfl (fun w => aN rfl) rfl rfl ?_)))))))))))))
      refine dI 11 rfl (fun w => aR fo_100_3 rfl) rfl rfl (dL 12 rfl (dQ 2 hs cH rfl rfl rfl rfl rfl rfl rfl (fun w hs => ⟨fun h => absurd h (by decide +kernel), bS (by decide +kernel) (dP (dM rfl rfl (lp (aN rfl) rfl (lp (aR fo_100_5 rfl) rfl (aJ (dQ 2 hs k_4 rfl rfl rfl rfl rfl rfl rfl (fun w hs => aH (dP (dM rfl rfl (lp (aN rfl) rfl (lp (aR fo_100_4 rfl) rfl ?_)))))))))))⟩)))
      refine lp (aO rfl (aQ cH (hs.g 2 rfl) rfl)) rfl (lp (bN rfl rfl (i64c (c := m.index + 1) (by omega) (by omega))) rfl (lp (aN rfl) rfl (lp (aR fo_100_4 rfl) rfl (aJ (dQ 2 hs cH rfl rfl rfl rfl rfl rfl rfl (fun w hs => aH (dP (lp (aO rfl (aP k_194 (hs.g 0 rfl) hcl)) rfl (aJ (dR 1 hs k_194 rfl rfl rfl hcl hzl hcf rfl (fun w hs => dN rfl rfl (aH (aV ⟨_, res2 ⟨_, rfl, aP k_194 (hs.g 1 rfl) hcl⟩ rfl, ?_⟩)))))))))))))
      exact ⟨V, _, _, _, .ok, _, _, rfl, (hs.drop hb4).drop hb2, dD hcond hbd, PR.mk rfl, rfl, hcl, hcf, fun _ => ⟨r, hbd, hBC⟩, fun h => absurd rfl h⟩
set_option maxHeartbeats 1000000 in
theorem c_bodySRV (hG : Gl A V) (hV : V.In w0) (hb : RB V mv l) (hown : w0.heap[bp]? = some (.cells cs.toArray E (0, 0))) (hvn : V bp = none) (hp : PR l mv m cs) (hwf : WF l m) (h2l : l.length ≤ 4294967296) :
  CallsV Tryz.prog 103 #[.pointer (some ⟨bp, 0, none⟩)] w0 fun v w' => ∃ (V' : Vw) (cs' bcs : List Value) (e : Value) (k : EK) (ro : Option PRec) (m' : PM), v = .tuple #[.agg bcs.toArray, e] ∧
   St ⟨w0, V, V'⟩ w' [(bp, .cells cs'.toArray E (0, 0))] ∧ bodyM l m 9 = (k, ro, m') ∧ PR l mv m' cs' ∧ ErrV A e k ∧ bcs.length = 259 ∧ Flat bcs ∧ (k = .ok → ∃ r, body l m.at_ 9 m.hlen = some r ∧ BodyC V' 9 m.htype r bcs) ∧ (k ≠ .ok → bcs = ([.int .u16 0, .int .u16 0, .int .u16 0] ++ rep 256 (.int .u8 0))) := by
 have hp' := hp
 have hat := hwf.at_le
 have hhl := hwf.hl
 obtain ⟨m0, x1, x2, x3, x4, x5, x6, rfl, hm0, hx⟩ := hp'
 have hs := St.start1 hV hown (bU _ _) hvn
 have hkt := @kind_type m.htype
 refine aT [_] Tryz.func103 Tryz.ntmps103 Tryz.results103 rfl rfl (dP (aJ (aX hs z_199 rfl (fun b2 w hb2 he2 hs => ?_))))
 obtain ⟨zz, hzz, hzl, hzf, hs⟩ : ∃ zz : List Value, zz = ([.int .u16 0, .int .u16 0, .int .u16 0] ++ rep 256 (.int .u8 0)) ∧ zz.length = 259 ∧ Flat zz ∧ St ⟨w0, V, V⟩ w [(b2, .cells zz.toArray 199 (0, 0)), (bp, .cells (parC m0 x1 x2 x3 x4 x5 x6 m).toArray E (0, 0))] := ⟨_, rfl, by simp, aG (by decide +kernel), hs⟩
 refine dN rfl rfl (aH (aF (dG (fun ρ w => Sub (upd (upd (upd emp 17 (.bool (decide (m.valid = false ∨ m.htype ≠ 33)))) 2 (.pointer (some ⟨b2, 0, none⟩))) 0 (.pointer (some ⟨bp, 0, none⟩))) ρ ∧ St ⟨w0, V, V⟩ w [(b2, .cells zz.toArray 199 (0, 0)), (bp, .cells (parC m0 x1 x2 x3 x4 x5 x6 m).toArray E (0, 0))]) ?_ ?_)))
 cases hg : m.valid
 have hg : (!m.valid) = true := by rw [hg]; rfl
 refine aB (dM rfl rfl (lp (aN rfl) rfl (lp (aR fo_100_5 rfl) rfl (lp (aO rfl (aQ k_4 (hs.g 1 rfl) rfl)) rfl (lp (cS rfl) rfl (dM rfl rfl (aU rfl rfl hg rfl (aU rfl rfl hg rfl (aU rfl rfl hg rfl (aU rfl rfl hg rfl (aU rfl rfl hg rfl (lp (bO rfl hg rfl) rfl (aH ?_)))))))))))))
 have hval : (true : Bool) = decide ((false : Bool) = false ∨ m.htype ≠ 33) := by symm; apply decide_eq_true; exact .inl rfl
 exact ⟨aL rfl (aL rfl (aL (congrArg (fun t => some (Value.bool t)) hval) (bG _))), hs⟩
 have hg : (!m.valid) = false := by rw [hg]; rfl
 refine aB (dM rfl rfl (lp (aN rfl) rfl (lp (aR fo_100_5 rfl) rfl (lp (aO rfl (aQ k_4 (hs.g 1 rfl) rfl)) rfl (lp (cS rfl) rfl (dM rfl rfl (lg rfl rfl hg (aC rfl) rfl (lg rfl rfl hg (aN rfl) rfl (lg rfl rfl hg (aR fo_100_7 rfl) rfl (lg rfl rfl hg (aO rfl (aQ k_87 (hs.g 1 rfl) rfl)) rfl (lg rfl rfl hg (po_neq rfl rfl) rfl (lp (bW rfl hg rfl) rfl (aH ?_)))))))))))))
 have hval : decide (((m.htype : Nat) : Int) ≠ 33) = decide ((true : Bool) = false ∨ m.htype ≠ 33) := by apply decide_eq_decide.2; simp; omega
 exact ⟨aL rfl (aL rfl (aL (congrArg (fun t => some (Value.bool t)) hval) (bG _))), hs⟩
 · clear hs
   rintro ρ w ⟨hsub, hs⟩
   refine EW.weaken hsub (bH rfl (fun hc0 => ?_) (fun hc0 => ?_))
   refine aF (bV hs [1] mixed (fun w hs => dI 0 rfl (fun w => (bM (vs := []) (ps := []) rfl bz_199)) rfl rfl ?_))
   rw [← hzz]
   refine dJ 1 rfl hs rfl (fun w hs => (aO rfl (bR k_57 (hG.ld hs.isIn (g := 4) rfl)))) rfl (dL 2 rfl (dR 0 hs k_199 rfl rfl rfl hzl hzl hzf rfl (fun w hs => ⟨fun _ => hs, dI 3 rfl (fun w => aD rfl) rfl rfl (bS (by decide +kernel) (aV ⟨_, res2 ⟨_, rfl, aP k_199 (hs.g 0 rfl) hzl⟩ rfl, ?_⟩))⟩)))
   exact ⟨V, _, _, _, .early, none, m, rfl, hs.drop hb2, bodyM_early (by rcases hc0 with h | h; exact .inl h; exact .inr ⟨by omega, by omega⟩), hp, rfl, hzl, hzf, fun h => (by cases h), fun _ => rfl⟩
   · obtain ⟨hv, hty⟩ : m.valid = true ∧ m.htype = 33 := by
      rcases Classical.em (m.valid = false) with h | h
      exact absurd (.inl h) hc0
      exact ⟨by simpa using h, by rcases Classical.em (m.htype = 33) with h' | h' <;> first | exact h' | exact absurd (.inr h') hc0⟩
     have hcond : ¬ (m.valid = false ∨ (9 ≠ 13 ∧ kindOfType m.htype ≠ 9)) := by
      rintro (h | ⟨h, h'⟩)
      rw [hv] at h; cases h
      omega
     obtain ⟨hs1, hs4⟩ := valid_sec hwf hv
     obtain ⟨rfl, rfl, rfl, rfl, rfl, rfl, rfl⟩ := hx hs1
     have hix := (hwf.idxV hv).1
     have hcn := cW l m.sec
     refine aW (aF (bV hs [3, 7] mixed (fun w hs => dI 0 rfl (fun w => aC rfl) rfl rfl (dI 1 rfl (fun w => aN rfl) rfl rfl (dI 2 rfl (fun w => aR fo_100_0 rfl) rfl rfl (dJ 3 rfl hs rfl (fun w hs => (aO rfl (aQ k_23 (hs.g 1 rfl) rfl))) rfl (dI 4 rfl (fun w => aC rfl) rfl rfl (dI 5 rfl (fun w => aN rfl) rfl rfl (dI 6 rfl (fun w => aR fo_100_3 rfl) rfl rfl (dJ 7 rfl hs rfl (fun w hs => (aO rfl (aQ cH (hs.g 1 rfl) rfl))) rfl (a_two 8 12 (by decide +kernel) rfl rfl ?_ ?_)))))))))))
     refine cF (cD rfl rfl ok_168 (c_unpackSRV hG hs.isIn hb m.at_ rfl (by omega) (by omega))) rfl (fun v29 w HF => ?_)
     obtain ⟨bcs, e, k, rfl, hc, he, hcl, hcf, hr⟩ := HF
     replace hs := hs.frame hc
     replace hr : (∃ r, k = .ok ∧ body l m.at_ 9 m.hlen = some r ∧ BodyC V 9 0 r bcs) ∨ (k = .other ∧ body l m.at_ 9 m.hlen = none) := by
      rcases hr with ⟨r, h1, h2⟩ | ⟨h1, h2⟩
      exact .inl ⟨r, h1, h2 m.hlen⟩
      exact .inr ⟨h1, h2 m.hlen⟩
     refine ⟨fun h => absurd h (by decide +kernel), dI 9 rfl (fun w => aC rfl) rfl rfl (dI 10 rfl (fun w => aI rfl rfl) rfl rfl (dI 11 rfl (fun w => aI rfl rfl) rfl rfl (dL 12 rfl (aX hs z_199 rfl (fun b4 w hb4 he4 hs => ⟨fun _ => (hs.drop hb4).less, ?_⟩)))))⟩
     rotate_left
     refine aX hs z_199 rfl (fun b4 w hb4 he4 hs => ⟨fun _ => (hs.drop hb4).less, dL 8 rfl (cF (cD rfl rfl ok_168 (c_unpackSRV hG hs.isIn hb m.at_ rfl (by omega) (by omega))) rfl (fun v29 w HF => ?_))⟩)
     obtain ⟨bcs, e, k, rfl, hc, he, hcl, hcf, hr⟩ := HF
     replace hs := hs.frame hc
     replace hr : (∃ r, k = .ok ∧ body l m.at_ 9 m.hlen = some r ∧ BodyC V 9 0 r bcs) ∨ (k = .other ∧ body l m.at_ 9 m.hlen = none) := by
      rcases hr with ⟨r, h1, h2⟩ | ⟨h1, h2⟩
      exact .inl ⟨r, h1, h2 m.hlen⟩
      exact .inr ⟨h1, h2 m.hlen⟩
     refine ⟨fun h => absurd h (by decide +kernel), dI 9 rfl (fun w => aC rfl) rfl rfl (dI 10 rfl (fun w => aI rfl rfl) rfl rfl (dI 11 rfl (fun w => aI rfl rfl) rfl rfl ?_))⟩
     all_goals
      refine dL 13 rfl (dR 0 hs k_199 rfl rfl rfl hcl (by simp) hcf rfl (fun w hs => ⟨fun _ => (hs.drop hb4).less, dI 14 rfl (fun w => aD rfl) rfl rfl (bS (by decide +kernel) (aF (dP (dM rfl rfl (lp (bB he rfl) rfl (aH (bH rfl (fun hc1 => ?_) (fun hc1 => ?_))))))))⟩))
      refine dP (lp (bM (vs := []) (ps := []) rfl bz_199) rfl ?_)
      rw [← hzz]
      refine dM rfl rfl (aJ (dR 1 hs k_199 rfl rfl rfl hzl hzl hzf rfl (fun w hs => dN rfl rfl (aH (aV ⟨_, res2 ⟨_, rfl, aP k_199 (hs.g 1 rfl) hzl⟩ rfl, ?_⟩)))))
      have hno : k = .other ∧ body l m.at_ 9 m.hlen = none := by
       rcases hr with ⟨r, hk, _⟩ | h
       exact absurd hk hc1
       exact h
      obtain ⟨rfl, hno⟩ := hno
      exact ⟨V, _, _, _, .other, none, m, rfl, (hs.drop hb4).drop hb2, dE hcond hno, PR.mk rfl, he, hzl, hzf, fun h => (by cases h), fun _ => rfl⟩
      have hk : k = .ok := by simpa using hc1
      subst hk
      obtain ⟨r, hbd, hBC⟩ : ∃ r, body l m.at_ 9 m.hlen = some r ∧ BodyC V 9 0 r bcs := by
       rcases hr with ⟨r, _, h⟩ | ⟨h, _⟩
       exact ⟨r, h⟩
       cases h
      refine aW (aF (bV hs [3, 7] mixed (fun w hs => dI 0 rfl (fun w => aC rfl) rfl rfl (dI 1 rfl (fun w => aN rfl) rfl rfl (dI 2 rfl (fun w => aR fo_100_3 rfl) rfl rfl (dJ 3 rfl hs rfl (fun w hs => (aO rfl (aQ cH (hs.g 2 rfl) rfl))) rfl (dI 4 rfl (fun w => aC rfl) rfl rfl (dI 5 rfl (fun w => aN rfl) rfl rfl (dI 6 rfl (fun w => aR fo_100_8 rfl) rfl rfl (dJ 7 rfl hs rfl (fun w hs => (aO rfl (aQ k_22 (hs.g 2 rfl) rfl))) rfl (dI 8 rfl (fun w => (bY Tryz.underlying22 Tryz.underlying3 rfl (i64c (c := m.hlen) rfl (by omega)))) rfl rfl (dI 9 rfl (fun w => (bN rfl rfl (i64c (c := m.at_ + m.hlen) (by omega) (by omega)))) rfl rfl (dI 10 rfl (fun w => aN rfl) rfl rfl ?_)))))))))))))
      refine dI 11 rfl (fun w => aR fo_100_3 rfl) rfl rfl (dL 12 rfl (dQ 2 hs cH rfl rfl rfl rfl rfl rfl rfl (fun w hs => ⟨fun h => absurd h (by decide +kernel), bS (by decide +kernel) (dP (dM rfl rfl (lp (aN rfl) rfl (lp (aR fo_100_5 rfl) rfl (aJ (dQ 2 hs k_4 rfl rfl rfl rfl rfl rfl rfl (fun w hs => aH (dP (dM rfl rfl (lp (aN rfl) rfl (lp (aR fo_100_4 rfl) rfl ?_)))))))))))⟩)))
      refine lp (aO rfl (aQ cH (hs.g 2 rfl) rfl)) rfl (lp (bN rfl rfl (i64c (c := m.index + 1) (by omega) (by omega))) rfl (lp (aN rfl) rfl (lp (aR fo_100_4 rfl) rfl (aJ (dQ 2 hs cH rfl rfl rfl rfl rfl rfl rfl (fun w hs => aH (dP (lp (aO rfl (aP k_199 (hs.g 0 rfl) hcl)) rfl (aJ (dR 1 hs k_199 rfl rfl rfl hcl hzl hcf rfl (fun w hs => dN rfl rfl (aH (aV ⟨_, res2 ⟨_, rfl, aP k_199 (hs.g 1 rfl) hcl⟩ rfl, ?_⟩)))))))))))))
      exact ⟨V, _, _, _, .ok, _, _, rfl, (hs.drop hb4).drop hb2, dD hcond hbd, PR.mk rfl, rfl, hcl, hcf, fun _ => ⟨r, hbd, hBC⟩, fun h => absurd rfl h⟩
set_option maxHeartbeats 1000000 in
theorem c_bodyOPT (hG : Gl A V) (hV : V.In w0) (hb : RB V mv l) (hown : w0.heap[bp]? = some (.cells cs.toArray E (0, 0))) (hvn : V bp = none) (hp : PR l mv m cs) (hwf : WF l m) (h2l : l.length ≤ 4294967296) :
  CallsV Tryz.prog 105 #[.pointer (some ⟨bp, 0, none⟩)] w0 fun v w' => ∃ (V' : Vw) (cs' bcs : List Value) (e : Value) (k : EK) (ro : Option PRec) (m' : PM), v = .tuple #[.agg bcs.toArray, e] ∧
   St ⟨w0, V, V'⟩ w' [(bp, .cells cs'.toArray E (0, 0))] ∧ bodyM l m 10 = (k, ro, m') ∧ PR l mv m' cs' ∧ ErrV A e k ∧ bcs.length = 1 ∧ Flat bcs ∧ (k = .ok → ∃ r, body l m.at_ 10 m.hlen = some r ∧ BodyC V' 10 m.htype r bcs) ∧ (k ≠ .ok → bcs = ([.slice none 0 0])) := by
 have hp' := hp
 have hat := hwf.at_le
 have hhl := hwf.hl
 obtain ⟨m0, x1, x2, x3, x4, x5, x6, rfl, hm0, hx⟩ := hp'
 have hs := St.start1 hV hown (bU _ _) hvn
 have hkt := @kind_type m.htype
 refine aT [_] Tryz.func105 Tryz.ntmps105 Tryz.results105 rfl rfl (dP (aJ (aX hs z_205 rfl (fun b2 w hb2 he2 hs => ?_))))
 obtain ⟨zz, hzz, hzl, hzf, hs⟩ : ∃ zz : List Value, zz = ([.slice none 0 0]) ∧ zz.length = 1 ∧ Flat zz ∧ St ⟨w0, V, V⟩ w [(b2, .cells zz.toArray 205 (0, 0)), (bp, .cells (parC m0 x1 x2 x3 x4 x5 x6 m).toArray E (0, 0))] := ⟨_, rfl, by simp, aG (by decide +kernel), hs⟩
 refine dN rfl rfl (aH (aF (dG (fun ρ w => Sub (upd (upd (upd emp 17 (.bool (decide (m.valid = false ∨ m.htype ≠ 41)))) 2 (.pointer (some ⟨b2, 0, none⟩))) 0 (.pointer (some ⟨bp, 0, none⟩))) ρ ∧ St ⟨w0, V, V⟩ w [(b2, .cells zz.toArray 205 (0, 0)), (bp, .cells (parC m0 x1 x2 x3 x4 x5 x6 m).toArray E (0, 0))]) ?_ ?_)))
 cases hg : m.valid
 have hg : (!m.valid) = true := by rw [hg]; rfl
 refine aB (dM rfl rfl (lp (aN rfl) rfl (lp (aR fo_100_5 rfl) rfl (lp (aO rfl (aQ k_4 (hs.g 1 rfl) rfl)) rfl (lp (cS rfl) rfl (dM rfl rfl (aU rfl rfl hg rfl (aU rfl rfl hg rfl (aU rfl rfl hg rfl (aU rfl rfl hg rfl (aU rfl rfl hg rfl (lp (bO rfl hg rfl) rfl (aH ?_)))))))))))))
 have hval : (true : Bool) = decide ((false : Bool) = false ∨ m.htype ≠ 41) := by symm; apply decide_eq_true; exact .inl rfl
 exact ⟨aL rfl (aL rfl (aL (congrArg (fun t => some (Value.bool t)) hval) (bG _))), hs⟩
 have hg : (!m.valid) = false := by rw [hg]; rfl
 refine aB (dM rfl rfl (lp (aN rfl) rfl (lp (aR fo_100_5 rfl) rfl (lp (aO rfl (aQ k_4 (hs.g 1 rfl) rfl)) rfl (lp (cS rfl) rfl (dM rfl rfl (lg rfl rfl hg (aC rfl) rfl (lg rfl rfl hg (aN rfl) rfl (lg rfl rfl hg (aR fo_100_7 rfl) rfl (lg rfl rfl hg (aO rfl (aQ k_87 (hs.g 1 rfl) rfl)) rfl (lg rfl rfl hg (po_neq rfl rfl) rfl (lp (bW rfl hg rfl) rfl (aH ?_)))))))))))))
 have hval : decide (((m.htype : Nat) : Int) ≠ 41) = decide ((true : Bool) = false ∨ m.htype ≠ 41) := by apply decide_eq_decide.2; simp; omega
 exact ⟨aL rfl (aL rfl (aL (congrArg (fun t => some (Value.bool t)) hval) (bG _))), hs⟩
 · clear hs
   rintro ρ w ⟨hsub, hs⟩
   refine EW.weaken hsub (bH rfl (fun hc0 => ?_) (fun hc0 => ?_))
   refine aF (bV hs [1] mixed (fun w hs => dI 0 rfl (fun w => (bM (vs := []) (ps := []) rfl bz_205)) rfl rfl ?_))
   rw [← hzz]
   refine dJ 1 rfl hs rfl (fun w hs => (aO rfl (bR k_57 (hG.ld hs.isIn (g := 4) rfl)))) rfl (dL 2 rfl (dR 0 hs k_205 rfl rfl rfl hzl hzl hzf rfl (fun w hs => ⟨fun _ => hs, dI 3 rfl (fun w => aD rfl) rfl rfl (bS (by decide +kernel) (aV ⟨_, res2 ⟨_, rfl, aP k_205 (hs.g 0 rfl) hzl⟩ rfl, ?_⟩))⟩)))
   exact ⟨V, _, _, _, .early, none, m, rfl, hs.drop hb2, bodyM_early (by rcases hc0 with h | h; exact .inl h; exact .inr ⟨by omega, by omega⟩), hp, rfl, hzl, hzf, fun h => (by cases h), fun _ => rfl⟩
   · obtain ⟨hv, hty⟩ : m.valid = true ∧ m.htype = 41 := by
      rcases Classical.em (m.valid = false) with h | h
      exact absurd (.inl h) hc0
      exact ⟨by simpa using h, by rcases Classical.em (m.htype = 41) with h' | h' <;> first | exact h' | exact absurd (.inr h') hc0⟩
     have hcond : ¬ (m.valid = false ∨ (10 ≠ 13 ∧ kindOfType m.htype ≠ 10)) := by
      rintro (h | ⟨h, h'⟩)
      rw [hv] at h; cases h
      omega
     obtain ⟨hs1, hs4⟩ := valid_sec hwf hv
     obtain ⟨rfl, rfl, rfl, rfl, rfl, rfl, rfl⟩ := hx hs1
     have hix := (hwf.idxV hv).1
     have hcn := cW l m.sec
     refine aW (aF (bV hs [3, 7, 11] mixed (fun w hs => dI 0 rfl (fun w => aC rfl) rfl rfl (dI 1 rfl (fun w => aN rfl) rfl rfl (dI 2 rfl (fun w => aR fo_100_0 rfl) rfl rfl (dJ 3 rfl hs rfl (fun w hs => (aO rfl (aQ k_23 (hs.g 1 rfl) rfl))) rfl (dI 4 rfl (fun w => aC rfl) rfl rfl (dI 5 rfl (fun w => aN rfl) rfl rfl (dI 6 rfl (fun w => aR fo_100_3 rfl) rfl rfl (dJ 7 rfl hs rfl (fun w hs => (aO rfl (aQ cH (hs.g 1 rfl) rfl))) rfl (dI 8 rfl (fun w => aC rfl) rfl rfl (dI 9 rfl (fun w => aN rfl) rfl rfl (dI 10 rfl (fun w => aR fo_100_8 rfl) rfl rfl ?_)))))))))))))
     refine dJ 11 rfl hs rfl (fun w hs => (aO rfl (aQ k_22 (hs.g 1 rfl) rfl))) rfl (a_two 12 16 (by decide +kernel) rfl rfl ?_ ?_)
     refine cF (cD rfl rfl ok_169 (c_unpackOPT hG hs.isIn hb m.hlen rfl hhl m.at_ rfl (by omega) (by omega))) rfl (fun v33 w HF => ?_)
     obtain ⟨V', bcs, e, k, rfl, hc, he, hcl, hcf, hr⟩ := HF
     replace hs := hs.frame hc
     refine ⟨fun h => absurd h (by decide +kernel), dI 13 rfl (fun w => aC rfl) rfl rfl (dI 14 rfl (fun w => aI rfl rfl) rfl rfl (dI 15 rfl (fun w => aI rfl rfl) rfl rfl (dL 16 rfl (aX hs z_205 rfl (fun b4 w hb4 he4 hs => ⟨fun _ => (hs.drop hb4).less, ?_⟩)))))⟩
     rotate_left
     refine aX hs z_205 rfl (fun b4 w hb4 he4 hs => ⟨fun _ => (hs.drop hb4).less, dL 12 rfl (cF (cD rfl rfl ok_169 (c_unpackOPT hG hs.isIn hb m.hlen rfl hhl m.at_ rfl (by omega) (by omega))) rfl (fun v33 w HF => ?_))⟩)
     obtain ⟨V', bcs, e, k, rfl, hc, he, hcl, hcf, hr⟩ := HF
     replace hs := hs.frame hc
     refine ⟨fun h => absurd h (by decide +kernel), dI 13 rfl (fun w => aC rfl) rfl rfl (dI 14 rfl (fun w => aI rfl rfl) rfl rfl (dI 15 rfl (fun w => aI rfl rfl) rfl rfl ?_))⟩
     all_goals
      refine dL 17 rfl (dR 0 hs k_205 rfl rfl rfl hcl (by simp) hcf rfl (fun w hs => ⟨fun _ => (hs.drop hb4).less, dI 18 rfl (fun w => aD rfl) rfl rfl (bS (by decide +kernel) (aF (dP (dM rfl rfl (lp (bB he rfl) rfl (aH (bH rfl (fun hc1 => ?_) (fun hc1 => ?_))))))))⟩))
      refine dP (lp (bM (vs := []) (ps := []) rfl bz_205) rfl ?_)
      rw [← hzz]
      refine dM rfl rfl (aJ (dR 1 hs k_205 rfl rfl rfl hzl hzl hzf rfl (fun w hs => dN rfl rfl (aH (aV ⟨_, res2 ⟨_, rfl, aP k_205 (hs.g 1 rfl) hzl⟩ rfl, ?_⟩)))))
      have hno : k = .other ∧ body l m.at_ 10 m.hlen = none := by
       rcases hr with ⟨r, hk, _⟩ | h
       exact absurd hk hc1
       exact h
      obtain ⟨rfl, hno⟩ := hno
      exact ⟨V', _, _, _, .other, none, m, rfl, (hs.drop hb4).drop hb2, dE hcond hno, PR.mk rfl, he, hzl, hzf, fun h => (by cases h), fun _ => rfl⟩
      have hk : k = .ok := by simpa using hc1
      subst hk
      obtain ⟨r, hbd, hBC⟩ : ∃ r, body l m.at_ 10 m.hlen = some r ∧ BodyC V' 10 0 r bcs := by
       rcases hr with ⟨r, _, h⟩ | ⟨h, _⟩
       exact ⟨r, h⟩
       cases h
      refine aW (aF (bV hs [3, 7] mixed (fun w hs => dI 0 rfl (fun w => aC rfl) rfl rfl (dI 1 rfl (fun w => aN rfl) rfl rfl (dI 2 rfl (fun w => aR fo_100_3 rfl) rfl rfl (dJ 3 rfl hs rfl (fun w hs => (aO rfl (aQ cH (hs.g 2 rfl) rfl))) rfl (dI 4 rfl (fun w => aC rfl) rfl rfl (dI 5 rfl (fun w => aN rfl) rfl rfl (dI 6 rfl (fun w => aR fo_100_8 rfl) rfl rfl (dJ 7 rfl hs rfl (fun w hs => (aO rfl (aQ k_22 (hs.g 2 rfl) rfl))) rfl (dI 8 rfl (fun w => (bY Tryz.underlying22 Tryz.underlying3 rfl (i64c (c := m.hlen) rfl (by omega)))) rfl rfl (dI 9 rfl (fun w => (bN rfl rfl (i64c (c := m.at_ + m.hlen) (by omega) (by omega)))) rfl rfl (dI 10 rfl (fun w => aN rfl) rfl rfl ?_)))))))))))))
      refine dI 11 rfl (fun w => aR fo_100_3 rfl) rfl rfl (dL 12 rfl (dQ 2 hs cH rfl rfl rfl rfl rfl rfl rfl (fun w hs => ⟨fun h => absurd h (by decide +kernel), bS (by decide +kernel) (dP (dM rfl rfl (lp (aN rfl) rfl (lp (aR fo_100_5 rfl) rfl (aJ (dQ 2 hs k_4 rfl rfl rfl rfl rfl rfl rfl (fun w hs => aH (dP (dM rfl rfl (lp (aN rfl) rfl (lp (aR fo_100_4 rfl) rfl ?_)))))))))))⟩)))
      refine lp (aO rfl (aQ cH (hs.g 2 rfl) rfl)) rfl (lp (bN rfl rfl (i64c (c := m.index + 1) (by omega) (by omega))) rfl (lp (aN rfl) rfl (lp (aR fo_100_4 rfl) rfl (aJ (dQ 2 hs cH rfl rfl rfl rfl rfl rfl rfl (fun w hs => aH (dP (lp (aO rfl (aP k_205 (hs.g 0 rfl) hcl)) rfl (aJ (dR 1 hs k_205 rfl rfl rfl hcl hzl hcf rfl (fun w hs => dN rfl rfl (aH (aV ⟨_, res2 ⟨_, rfl, aP k_205 (hs.g 1 rfl) hcl⟩ rfl, ?_⟩)))))))))))))
      exact ⟨V', _, _, _, .ok, _, _, rfl, (hs.drop hb4).drop hb2, dD hcond hbd, PR.mk rfl, rfl, hcl, hcf, fun _ => ⟨r, hbd, hBC⟩, fun h => absurd rfl h⟩
set_option maxHeartbeats 1000000 in
theorem c_bodyUnknown (hG : Gl A V) (hV : V.In w0) (hb : RB V mv l) (hown : w0.heap[bp]? = some (.cells cs.toArray E (0, 0))) (hvn : V bp = none) (hp : PR l mv m cs) (hwf : WF l m) (h2l : l.length ≤ 4294967296) :
  CallsV Tryz.prog 111 #[.pointer (some ⟨bp, 0, none⟩)] w0 fun v w' => ∃ (V' : Vw) (cs' bcs : List Value) (e : Value) (k : EK) (ro : Option PRec) (m' : PM), v = .tuple #[.agg bcs.toArray, e] ∧
   St ⟨w0, V, V'⟩ w' [(bp, .cells cs'.toArray E (0, 0))] ∧ bodyM l m 13 = (k, ro, m') ∧ PR l mv m' cs' ∧ ErrV A e k ∧ bcs.length = 2 ∧ Flat bcs ∧ (k = .ok → ∃ r, body l m.at_ 13 m.hlen = some r ∧ BodyC V' 13 m.htype r bcs) ∧ (k ≠ .ok → bcs = ([.int .u16 0, .slice none 0 0])) := by
 have hp' := hp
 have hat := hwf.at_le
 have hhl := hwf.hl
 obtain ⟨m0, x1, x2, x3, x4, x5, x6, rfl, hm0, hx⟩ := hp'
 have hs := St.start1 hV hown (bU _ _) hvn
 have hkt := @kind_type m.htype
 refine aT [_] Tryz.func111 Tryz.ntmps111 Tryz.results111 rfl rfl (dP (aJ (aX hs z_221 rfl (fun b2 w hb2 he2 hs => ?_))))
 obtain ⟨zz, hzz, hzl, hzf, hs⟩ : ∃ zz : List Value, zz = ([.int .u16 0, .slice none 0 0]) ∧ zz.length = 2 ∧ Flat zz ∧ St ⟨w0, V, V⟩ w [(b2, .cells zz.toArray 221 (0, 0)), (bp, .cells (parC m0 x1 x2 x3 x4 x5 x6 m).toArray E (0, 0))] := ⟨_, rfl, by simp, aG (by decide +kernel), hs⟩
 refine dN rfl rfl (aH (aF (dP (dM rfl rfl (lp (aN rfl) rfl (lp (aR fo_100_5 rfl) rfl (lp (aO rfl (aQ k_4 (hs.g 1 rfl) rfl)) rfl (lp (cS rfl) rfl (aH (bJ rfl (fun hc0 => ?_) (fun hc0 => ?_)))))))))))
 refine aF (bV hs [1] mixed (fun w hs => dI 0 rfl (fun w => (bM (vs := []) (ps := []) rfl bz_221)) rfl rfl ?_))
 rw [← hzz]
 refine dJ 1 rfl hs rfl (fun w hs => (aO rfl (bR k_57 (hG.ld hs.isIn (g := 4) rfl)))) rfl (dL 2 rfl (dR 0 hs k_221 rfl rfl rfl hzl hzl hzf rfl (fun w hs => ⟨fun _ => hs, dI 3 rfl (fun w => aD rfl) rfl rfl (bS (by decide +kernel) (aV ⟨_, res2 ⟨_, rfl, aP k_221 (hs.g 0 rfl) hzl⟩ rfl, ?_⟩))⟩)))
 exact ⟨V, _, _, _, .early, none, m, rfl, hs.drop hb2, bodyM_early (.inl (by simpa using hc0)), hp, rfl, hzl, hzf, fun h => (by cases h), fun _ => rfl⟩
 · have hv : m.valid = true := by simpa using hc0
   have hcond : ¬ (m.valid = false ∨ ((13 : Nat) ≠ 13 ∧ kindOfType m.htype ≠ 13)) := by
    rintro (h | ⟨h, h'⟩)
    rw [hv] at h; cases h
    omega
   obtain ⟨hs1, hs4⟩ := valid_sec hwf hv
   obtain ⟨rfl, rfl, rfl, rfl, rfl, rfl, rfl⟩ := hx hs1
   have hix := (hwf.idxV hv).1
   have hcn := cW l m.sec
   refine aW (aF (bV hs [3, 7, 11, 15] mixed (fun w hs => dI 0 rfl (fun w => aC rfl) rfl rfl (dI 1 rfl (fun w => aN rfl) rfl rfl (dI 2 rfl (fun w => aR fo_100_7 rfl) rfl rfl (dJ 3 rfl hs rfl (fun w hs => (aO rfl (aQ k_87 (hs.g 1 rfl) rfl))) rfl (dI 4 rfl (fun w => aC rfl) rfl rfl (dI 5 rfl (fun w => aN rfl) rfl rfl (dI 6 rfl (fun w => aR fo_100_0 rfl) rfl rfl (dJ 7 rfl hs rfl (fun w hs => (aO rfl (aQ k_23 (hs.g 1 rfl) rfl))) rfl (dI 8 rfl (fun w => aC rfl) rfl rfl (dI 9 rfl (fun w => aN rfl) rfl rfl (dI 10 rfl (fun w => aR fo_100_3 rfl) rfl rfl ?_)))))))))))))
   refine dJ 11 rfl hs rfl (fun w hs => (aO rfl (aQ cH (hs.g 1 rfl) rfl))) rfl (dI 12 rfl (fun w => aC rfl) rfl rfl (dI 13 rfl (fun w => aN rfl) rfl rfl (dI 14 rfl (fun w => aR fo_100_8 rfl) rfl rfl (dJ 15 rfl hs rfl (fun w hs => (aO rfl (aQ k_22 (hs.g 1 rfl) rfl))) rfl (a_two 16 20 (by decide +kernel) rfl rfl ?_ ?_)))))
   refine cF (cD rfl rfl ok_172 (c_unpackUnknown hG hs.isIn hb m.htype m.hlen rfl hhl m.at_ rfl (by omega) (by omega))) rfl (fun v30 w HF => ?_)
   obtain ⟨V', bcs, e, k, rfl, hc, he, hcl, hcf, hr⟩ := HF
   replace hs := hs.frame hc
   refine ⟨fun h => absurd h (by decide +kernel), dI 17 rfl (fun w => aC rfl) rfl rfl (dI 18 rfl (fun w => aI rfl rfl) rfl rfl (dI 19 rfl (fun w => aI rfl rfl) rfl rfl (dL 20 rfl (aX hs z_221 rfl (fun b4 w hb4 he4 hs => ⟨fun _ => (hs.drop hb4).less, ?_⟩)))))⟩
   rotate_left
   refine aX hs z_221 rfl (fun b4 w hb4 he4 hs => ⟨fun _ => (hs.drop hb4).less, dL 16 rfl (cF (cD rfl rfl ok_172 (c_unpackUnknown hG hs.isIn hb m.htype m.hlen rfl hhl m.at_ rfl (by omega) (by omega))) rfl (fun v30 w HF => ?_))⟩)
   obtain ⟨V', bcs, e, k, rfl, hc, he, hcl, hcf, hr⟩ := HF
   replace hs := hs.frame hc
   refine ⟨fun h => absurd h (by decide +kernel), dI 17 rfl (fun w => aC rfl) rfl rfl (dI 18 rfl (fun w => aI rfl rfl) rfl rfl (dI 19 rfl (fun w => aI rfl rfl) rfl rfl ?_))⟩
   all_goals
    refine dL 21 rfl (dR 0 hs k_221 rfl rfl rfl hcl (by simp) hcf rfl (fun w hs => ⟨fun _ => (hs.drop hb4).less, dI 22 rfl (fun w => aD rfl) rfl rfl (bS (by decide +kernel) (aF (dP (dM rfl rfl (lp (bB he rfl) rfl (aH (bH rfl (fun hc1 => ?_) (fun hc1 => ?_))))))))⟩))
    refine dP (lp (bM (vs := []) (ps := []) rfl bz_221) rfl ?_)
    rw [← hzz]
    refine dM rfl rfl (aJ (dR 1 hs k_221 rfl rfl rfl hzl hzl hzf rfl (fun w hs => dN rfl rfl (aH (aV ⟨_, res2 ⟨_, rfl, aP k_221 (hs.g 1 rfl) hzl⟩ rfl, ?_⟩)))))
    have hno : k = .other ∧ body l m.at_ 13 m.hlen = none := by
     rcases hr with ⟨r, hk, _⟩ | h
     exact absurd hk hc1
     exact h
    obtain ⟨rfl, hno⟩ := hno
    exact ⟨V', _, _, _, .other, none, m, rfl, (hs.drop hb4).drop hb2, dE hcond hno, PR.mk rfl, he, hzl, hzf, fun h => (by cases h), fun _ => rfl⟩
    have hk : k = .ok := by simpa using hc1
    subst hk
    obtain ⟨r, hbd, hBC⟩ : ∃ r, body l m.at_ 13 m.hlen = some r ∧ BodyC V' 13 m.htype r bcs := by
     rcases hr with ⟨r, _, h⟩ | ⟨h, _⟩
     exact ⟨r, h⟩
     cases h
    refine aW (aF (bV hs [3, 7] mixed (fun w hs => dI 0 rfl (fun w => aC rfl) rfl rfl (dI 1 rfl (fun w => aN rfl) rfl rfl (dI 2 rfl (fun w => aR fo_100_3 rfl) rfl rfl (dJ 3 rfl hs rfl (fun w hs => (aO rfl (aQ cH (hs.g 2 rfl) rfl))) rfl (dI 4 rfl (fun w => aC rfl) rfl rfl (dI 5 rfl (fun w => aN rfl) rfl rfl (dI 6 rfl (fun w => aR fo_100_8 rfl) rfl rfl (dJ 7 rfl hs rfl (fun w hs => (aO rfl (aQ k_22 (hs.g 2 rfl) rfl))) rfl (dI 8 rfl (fun w => (bY Tryz.underlying22 Tryz.underlying3 rfl (i64c (c := m.hlen) rfl (by omega)))) rfl rfl (dI 9 rfl (fun w => (bN rfl rfl (i64c (c := m.at_ + m.hlen) (by omega) (by omega)))) rfl rfl (dI 10 rfl (fun w => aN rfl) rfl rfl ?_)))))))))))))
    refine dI 11 rfl (fun w => aR fo_100_3 rfl) rfl rfl (dL 12 rfl (dQ 2 hs cH rfl rfl rfl rfl rfl rfl rfl (fun w hs => ⟨fun h => absurd h (by decide +kernel), bS (by decide +kernel) (dP (dM rfl rfl (lp (aN rfl) rfl (lp (aR fo_100_5 rfl) rfl (aJ (dQ 2 hs k_4 rfl rfl rfl rfl rfl rfl rfl (fun w hs => aH (dP (dM rfl rfl (lp (aN rfl) rfl (lp (aR fo_100_4 rfl) rfl ?_)))))))))))⟩)))
    refine lp (aO rfl (aQ cH (hs.g 2 rfl) rfl)) rfl (lp (bN rfl rfl (i64c (c := m.index + 1) (by omega) (by omega))) rfl (lp (aN rfl) rfl (lp (aR fo_100_4 rfl) rfl (aJ (dQ 2 hs cH rfl rfl rfl rfl rfl rfl rfl (fun w hs => aH (dP (lp (aO rfl (aP k_221 (hs.g 0 rfl) hcl)) rfl (aJ (dR 1 hs k_221 rfl rfl rfl hcl hzl hcf rfl (fun w hs => dN rfl rfl (aH (aV ⟨_, res2 ⟨_, rfl, aP k_221 (hs.g 1 rfl) hcl⟩ rfl, ?_⟩)))))))))))))
    exact ⟨V', _, _, _, .ok, _, _, rfl, (hs.drop hb4).drop hb2, dD hcond hbd, PR.mk rfl, rfl, hcl, hcf, fun _ => ⟨r, hbd, hBC⟩, fun h => absurd rfl h⟩
set_option maxHeartbeats 1000000 in
theorem c_bodygeneric (hG : Gl A V) (hV : V.In w0) (hb : RB V mv l) (hown : w0.heap[bp]? = some (.cells cs.toArray E (0, 0))) (hvn : V bp = none) (hp : PR l mv m cs) (hwf : WF l m) (h2l : l.length ≤ 4294967296) (ty kind : Nat) (hkd : ty = 64 ∧ kind = 11 ∨ ty = 65 ∧ kind = 12) :
  CallsV Tryz.prog 170 #[.pointer (some ⟨bp, 0, none⟩), .int .u16 ty] w0 fun v w' => ∃ (V' : Vw) (cs' bcs : List Value) (e : Value) (k : EK) (ro : Option PRec) (m' : PM), v = .tuple #[.agg bcs.toArray, e] ∧
   St ⟨w0, V, V'⟩ w' [(bp, .cells cs'.toArray E (0, 0))] ∧ bodyM l m kind = (k, ro, m') ∧ PR l mv m' cs' ∧ ErrV A e k ∧ bcs.length = 258 ∧ Flat bcs ∧ (k = .ok → ∃ r, body l m.at_ kind m.hlen = some r ∧ BodyC V' kind m.htype r bcs) ∧ (k ≠ .ok → bcs = ([.int .u16 0] ++ rep 256 (.int .u8 0) ++ [.slice none 0 0])) := by
 have hp' := hp
 have hat := hwf.at_le
 have hhl := hwf.hl
 obtain ⟨m0, x1, x2, x3, x4, x5, x6, rfl, hm0, hx⟩ := hp'
 have hs := St.start1 hV hown (bU _ _) hvn
 have hkt := @kind_type m.htype
 refine aT [_, _] Tryz.func170 Tryz.ntmps170 Tryz.results170 rfl rfl (dP (aJ (aX hs z_211 rfl (fun b4 w hb4 he4 hs => ?_))))
 obtain ⟨zz, hzz, hzl, hzf, hs⟩ : ∃ zz : List Value, zz = ([.int .u16 0] ++ rep 256 (.int .u8 0) ++ [.slice none 0 0]) ∧ zz.length = 258 ∧ Flat zz ∧ St ⟨w0, V, V⟩ w [(b4, .cells zz.toArray 211 (0, 0)), (bp, .cells (parC m0 x1 x2 x3 x4 x5 x6 m).toArray E (0, 0))] := ⟨_, rfl, by simp, aG (by decide +kernel), hs⟩
 refine dN rfl rfl (aH (aF (dG (fun ρ w => Sub (upd (upd (upd (upd emp 1 (.int .u16 ty)) 20 (.bool (decide (m.valid = false ∨ m.htype ≠ ty)))) 4 (.pointer (some ⟨b4, 0, none⟩))) 0 (.pointer (some ⟨bp, 0, none⟩))) ρ ∧ St ⟨w0, V, V⟩ w [(b4, .cells zz.toArray 211 (0, 0)), (bp, .cells (parC m0 x1 x2 x3 x4 x5 x6 m).toArray E (0, 0))]) ?_ ?_)))
 cases hg : m.valid
 have hg : (!m.valid) = true := by rw [hg]; rfl
 refine aB (dM rfl rfl (lp (aN rfl) rfl (lp (aR fo_100_5 rfl) rfl (lp (aO rfl (aQ k_4 (hs.g 1 rfl) rfl)) rfl (lp (cS rfl) rfl (dM rfl rfl (aU rfl rfl hg rfl (aU rfl rfl hg rfl (aU rfl rfl hg rfl (aU rfl rfl hg rfl (aU rfl rfl hg rfl (aU rfl rfl hg rfl (lp (bO rfl hg rfl) rfl ?_)))))))))))))
 refine aH ?_
 have hval : (true : Bool) = decide ((false : Bool) = false ∨ m.htype ≠ ty) := by symm; apply decide_eq_true; exact .inl rfl
 exact ⟨aL rfl (aL rfl (aL (congrArg (fun t => some (Value.bool t)) hval) (aL rfl (bG _)))), hs⟩
 have hg : (!m.valid) = false := by rw [hg]; rfl
 refine aB (dM rfl rfl (lp (aN rfl) rfl (lp (aR fo_100_5 rfl) rfl (lp (aO rfl (aQ k_4 (hs.g 1 rfl) rfl)) rfl (lp (cS rfl) rfl (dM rfl rfl (lg rfl rfl hg (aC rfl) rfl (lg rfl rfl hg (aN rfl) rfl (lg rfl rfl hg (aR fo_100_7 rfl) rfl (lg rfl rfl hg (aO rfl (aQ k_87 (hs.g 1 rfl) rfl)) rfl (lg rfl rfl hg (aC rfl) rfl (lg rfl rfl hg (po_neq rfl rfl) rfl (lp (bW rfl hg rfl) rfl ?_)))))))))))))
 refine aH ?_
 have hval : decide (((m.htype : Nat) : Int) ≠ (ty : Nat)) = decide ((true : Bool) = false ∨ m.htype ≠ ty) := by apply decide_eq_decide.2; simp; omega
 exact ⟨aL rfl (aL rfl (aL (congrArg (fun t => some (Value.bool t)) hval) (aL rfl (bG _)))), hs⟩
 · clear hs
   rintro ρ w ⟨hsub, hs⟩
   refine EW.weaken hsub (bH rfl (fun hc0 => ?_) (fun hc0 => ?_))
   refine aF (bV hs [1] mixed (fun w hs => dI 0 rfl (fun w => (bM (vs := []) (ps := []) rfl bz_211)) rfl rfl ?_))
   rw [← hzz]
   refine dJ 1 rfl hs rfl (fun w hs => (aO rfl (bR k_57 (hG.ld hs.isIn (g := 4) rfl)))) rfl (dL 2 rfl (dR 0 hs k_211 rfl rfl rfl hzl hzl hzf rfl (fun w hs => ⟨fun _ => hs, dI 3 rfl (fun w => aD rfl) rfl rfl (bS (by decide +kernel) (aV ⟨_, res2 ⟨_, rfl, aP k_211 (hs.g 0 rfl) hzl⟩ rfl, ?_⟩))⟩)))
   exact ⟨V, _, _, _, .early, none, m, rfl, hs.drop hb4, bodyM_early (by rcases hc0 with h | h; exact .inl h; exact .inr ⟨by omega, by omega⟩), hp, rfl, hzl, hzf, fun h => (by cases h), fun _ => rfl⟩
   · obtain ⟨hv, hty⟩ : m.valid = true ∧ m.htype = ty := by
      rcases Classical.em (m.valid = false) with h | h
      exact absurd (.inl h) hc0
      exact ⟨by simpa using h, by rcases Classical.em (m.htype = ty) with h' | h' <;> first | exact h' | exact absurd (.inr h') hc0⟩
     have hcond : ¬ (m.valid = false ∨ (kind ≠ 13 ∧ kindOfType m.htype ≠ kind)) := by
      rintro (h | ⟨h, h'⟩)
      rw [hv] at h; cases h
      omega
     obtain ⟨hs1, hs4⟩ := valid_sec hwf hv
     obtain ⟨rfl, rfl, rfl, rfl, rfl, rfl, rfl⟩ := hx hs1
     have hix := (hwf.idxV hv).1
     have hcn := cW l m.sec
     refine aW (aF (bV hs [3, 7, 11] mixed (fun w hs => dI 0 rfl (fun w => aC rfl) rfl rfl (dI 1 rfl (fun w => aN rfl) rfl rfl (dI 2 rfl (fun w => aR fo_100_0 rfl) rfl rfl (dJ 3 rfl hs rfl (fun w hs => (aO rfl (aQ k_23 (hs.g 1 rfl) rfl))) rfl (dI 4 rfl (fun w => aC rfl) rfl rfl (dI 5 rfl (fun w => aN rfl) rfl rfl (dI 6 rfl (fun w => aR fo_100_3 rfl) rfl rfl (dJ 7 rfl hs rfl (fun w hs => (aO rfl (aQ cH (hs.g 1 rfl) rfl))) rfl (dI 8 rfl (fun w => aC rfl) rfl rfl (dI 9 rfl (fun w => aN rfl) rfl rfl (dI 10 rfl (fun w => aR fo_100_8 rfl) rfl rfl ?_)))))))))))))
     refine dJ 11 rfl hs rfl (fun w hs => (aO rfl (aQ k_22 (hs.g 1 rfl) rfl))) rfl (a_two 12 16 (by decide +kernel) rfl rfl ?_ ?_)
     refine cF (cD rfl rfl ok_196 (c_unpackSVCB hG hs.isIn hb m.hlen rfl hhl m.at_ rfl (by omega) (by omega))) rfl (fun v36 w HF => ?_)
     obtain ⟨V', bcs, e, k, rfl, hc, he, hcl, hcf, hr⟩ := HF
     replace hs := hs.frame hc
     replace hr : (∃ r, k = .ok ∧ body l m.at_ kind m.hlen = some r ∧ BodyC V' kind m.htype r bcs) ∨ (k = .other ∧ body l m.at_ kind m.hlen = none) := by
      rcases hkd with ⟨_, rfl⟩ | ⟨_, rfl⟩
      rcases hr with ⟨r, h1, h2, h3⟩ | ⟨h1, h2⟩
      exact .inl ⟨r, h1, h2, h3⟩
      exact .inr ⟨h1, h2⟩
      rcases hr with ⟨r, h1, h2, h3⟩ | ⟨h1, h2⟩
      exact .inl ⟨{ r with kind := 12 }, h1, by rw [body12, h2]; rfl, h3⟩
      exact .inr ⟨h1, by rw [body12, h2]; rfl⟩
     refine ⟨fun h => absurd h (by decide +kernel), dI 13 rfl (fun w => aC rfl) rfl rfl (dI 14 rfl (fun w => aI rfl rfl) rfl rfl (dI 15 rfl (fun w => aI rfl rfl) rfl rfl (dL 16 rfl (aX hs z_211 rfl (fun b6 w hb6 he6 hs => ⟨fun _ => (hs.drop hb6).less, ?_⟩)))))⟩
     rotate_left
     refine aX hs z_211 rfl (fun b6 w hb6 he6 hs => ⟨fun _ => (hs.drop hb6).less, dL 12 rfl (cF (cD rfl rfl ok_196 (c_unpackSVCB hG hs.isIn hb m.hlen rfl hhl m.at_ rfl (by omega) (by omega))) rfl (fun v36 w HF => ?_))⟩)
     obtain ⟨V', bcs, e, k, rfl, hc, he, hcl, hcf, hr⟩ := HF
     replace hs := hs.frame hc
     replace hr : (∃ r, k = .ok ∧ body l m.at_ kind m.hlen = some r ∧ BodyC V' kind m.htype r bcs) ∨ (k = .other ∧ body l m.at_ kind m.hlen = none) := by
      rcases hkd with ⟨_, rfl⟩ | ⟨_, rfl⟩
      rcases hr with ⟨r, h1, h2, h3⟩ | ⟨h1, h2⟩
      exact .inl ⟨r, h1, h2, h3⟩
      exact .inr ⟨h1, h2⟩
      rcases hr with ⟨r, h1, h2, h3⟩ | ⟨h1, h2⟩
      exact .inl ⟨{ r with kind := 12 }, h1, by rw [body12, h2]; rfl, h3⟩
      exact .inr ⟨h1, by rw [body12, h2]; rfl⟩
     refine ⟨fun h => absurd h (by decide +kernel), dI 13 rfl (fun w => aC rfl) rfl rfl (dI 14 rfl (fun w => aI rfl rfl) rfl rfl (dI 15 rfl (fun w => aI rfl rfl) rfl rfl ?_))⟩
     all_goals
      refine dL 17 rfl (dR 0 hs k_211 rfl rfl rfl hcl (by simp) hcf rfl (fun w hs => ⟨fun _ => (hs.drop hb6).less, dI 18 rfl (fun w => aD rfl) rfl rfl (bS (by decide +kernel) (aF (dP (dM rfl rfl (lp (bB he rfl) rfl (aH (bH rfl (fun hc1 => ?_) (fun hc1 => ?_))))))))⟩))
      refine dP (lp (bM (vs := []) (ps := []) rfl bz_211) rfl ?_)
      rw [← hzz]
      refine dM rfl rfl (aJ (dR 1 hs k_211 rfl rfl rfl hzl hzl hzf rfl (fun w hs => dN rfl rfl (aH (aV ⟨_, res2 ⟨_, rfl, aP k_211 (hs.g 1 rfl) hzl⟩ rfl, ?_⟩)))))
      have hno : k = .other ∧ body l m.at_ kind m.hlen = none := by
       rcases hr with ⟨r, hk, _⟩ | h
       exact absurd hk hc1
       exact h
      obtain ⟨rfl, hno⟩ := hno
      exact ⟨V', _, _, _, .other, none, m, rfl, (hs.drop hb6).drop hb4, dE hcond hno, PR.mk rfl, he, hzl, hzf, fun h => (by cases h), fun _ => rfl⟩
      have hk : k = .ok := by simpa using hc1
      subst hk
      obtain ⟨r, hbd, hBC⟩ : ∃ r, body l m.at_ kind m.hlen = some r ∧ BodyC V' kind m.htype r bcs := by
       rcases hr with ⟨r, _, h⟩ | ⟨h, _⟩
       exact ⟨r, h⟩
       cases h
      refine aW (aF (bV hs [3, 7] mixed (fun w hs => dI 0 rfl (fun w => aC rfl) rfl rfl (dI 1 rfl (fun w => aN rfl) rfl rfl (dI 2 rfl (fun w => aR fo_100_3 rfl) rfl rfl (dJ 3 rfl hs rfl (fun w hs => (aO rfl (aQ cH (hs.g 2 rfl) rfl))) rfl (dI 4 rfl (fun w => aC rfl) rfl rfl (dI 5 rfl (fun w => aN rfl) rfl rfl (dI 6 rfl (fun w => aR fo_100_8 rfl) rfl rfl (dJ 7 rfl hs rfl (fun w hs => (aO rfl (aQ k_22 (hs.g 2 rfl) rfl))) rfl (dI 8 rfl (fun w => (bY Tryz.underlying22 Tryz.underlying3 rfl (i64c (c := m.hlen) rfl (by omega)))) rfl rfl (dI 9 rfl (fun w => (bN rfl rfl (i64c (c := m.at_ + m.hlen) (by omega) (by omega)))) rfl rfl (dI 10 rfl (fun w => aN rfl) rfl rfl ?_)))))))))))))
      refine dI 11 rfl (fun w => aR fo_100_3 rfl) rfl rfl (dL 12 rfl (dQ 2 hs cH rfl rfl rfl rfl rfl rfl rfl (fun w hs => ⟨fun h => absurd h (by decide +kernel), bS (by decide +kernel) (dP (dM rfl rfl (lp (aN rfl) rfl (lp (aR fo_100_5 rfl) rfl (aJ (dQ 2 hs k_4 rfl rfl rfl rfl rfl rfl rfl (fun w hs => aH (dP (dM rfl rfl (lp (aN rfl) rfl (lp (aR fo_100_4 rfl) rfl ?_)))))))))))⟩)))
      refine lp (aO rfl (aQ cH (hs.g 2 rfl) rfl)) rfl (lp (bN rfl rfl (i64c (c := m.index + 1) (by omega) (by omega))) rfl (lp (aN rfl) rfl (lp (aR fo_100_4 rfl) rfl (aJ (dQ 2 hs cH rfl rfl rfl rfl rfl rfl rfl (fun w hs => aH (dP (lp (aO rfl (aP k_211 (hs.g 0 rfl) hcl)) rfl (aJ (dR 1 hs k_211 rfl rfl rfl hcl hzl hcf rfl (fun w hs => dN rfl rfl (aH (aV ⟨_, res2 ⟨_, rfl, aP k_211 (hs.g 1 rfl) hcl⟩ rfl, ?_⟩)))))))))))))
      exact ⟨V', _, _, _, .ok, _, _, rfl, (hs.drop hb6).drop hb4, dD hcond hbd, PR.mk rfl, rfl, hcl, hcf, fun _ => ⟨r, hbd, hBC⟩, fun h => absurd rfl h⟩
end
end Go.Proofs.YtgpfjlfkaoffeaaGreatDoor

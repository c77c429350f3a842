/- A parser's run. -/
import Derived.Test.YtgpfjlfkaoffeaaGreatDoorP34
set_option linter.all false
namespace Go.Proofs.YtgpfjlfkaoffeaaGreatDoor
open Go
section
variable {l : List UInt8} {m k : PM} {st : Int}
theorem stepM_q (h1 : 2 ≤ st) (h2 : st ≤ 5) : stepM l m k st = ((questionM l m st.toNat).1, (questionM l m st.toNat).2, k) := by
 unfold stepM; rw [if_neg (by omega), if_pos ⟨h1, h2⟩]
theorem stepM_p {s b : Nat} (h0 : s = 2 ∧ b = 6 ∨ s = 3 ∧ b = 11 ∨ s = 4 ∧ b = 16) (h1 : (b : Int) ≤ st) (h2 : st ≤ (b + 4 : Nat)) : stepM l m k st = ((partM l m s (st.toNat - b)).1, (partM l m s (st.toNat - b)).2, k) := by
 unfold stepM; rw [if_neg (by omega), if_neg (by omega), if_pos (by omega)]
 have e1 : 2 + (st.toNat - 6) / 5 = s := by omega
 have e2 : (st.toNat - 6) % 5 = st.toNat - b := by omega
 rw [e1, e2]
theorem stepM_b (h1 : 20 < st) (h2 : st ≤ 33) : stepM l m k st = (onlyRec (bodyM l m (st.toNat - 20)).1 (bodyM l m (st.toNat - 20)).2.1, (bodyM l m (st.toNat - 20)).2.2, k) := by
 unfold stepM; rw [if_neg (by omega), if_neg (by omega), if_neg (by omega), if_pos ⟨h1, h2⟩]
theorem stepM_1ok (h : 12 ≤ l.length) : stepM l m k 1 = ({ id := w16 l 0, bits := w16 l 2 }, { sec := 1, at_ := 12 }, k) := by
 unfold stepM startM; rw [if_pos rfl, if_neg (by omega)]
theorem stepM_1no (h : l.length < 12) : stepM l m k 1 = ({ fault := 3 }, {}, k) := by
 unfold stepM startM; rw [if_pos rfl, if_pos h]
theorem stepM_40 : stepM l m k 40 = ({}, m, m) := by simp [stepM]
theorem stepM_41 : stepM l m k 41 = ({}, k, k) := by simp [stepM]
theorem stepM_d (h1 : st ≠ 1) (h2 : ¬ (2 ≤ st ∧ st ≤ 5)) (h3 : ¬ (6 ≤ st ∧ st ≤ 20)) (h4 : ¬ (20 < st ∧ st ≤ 33)) (h5 : st ≠ 40) (h6 : st ≠ 41) : stepM l m k st = ({ fault := 3 }, m, k) := by
 unfold stepM; rw [if_neg h1, if_neg h2, if_neg h3, if_neg h4, if_neg h5, if_neg h6]
theorem run_snoc {steps : List Int} {j : Nat} (hj : steps[j]? = some st) {m' k' : PM} {s : PSeen} (he : endM l {} {} (steps.take j) = (m, k)) (hs : stepM l m k st = (s, m', k')) :
  runM l {} {} (steps.take (j + 1)) = runM l {} {} (steps.take j) ++ [s] ∧ endM l {} {} (steps.take (j + 1)) = (m', k') := by
 rw [List.take_succ, hj]
 simp only [Option.toList_some]
 rw [runM_app, endM_app, he]
 simp only [runM, endM, hs]
 exact ⟨trivial, trivial⟩
theorem PR.len {mv : Value} {cs : List Value} (h : PR l mv m cs) (hb : mv.oneCell' = true) : cs.length = 14 ∧ Flat cs := by
 obtain ⟨m0, x1, x2, x3, x4, x5, x6, rfl, ⟨h1, _⟩, _⟩ := h
 refine ⟨rfl, aG ?_⟩
 have : m0.oneCell' = true := by rcases h1 with rfl | rfl <;> first | exact hb | rfl
 unfold parC
 simp only [List.all_cons, List.all_nil, this]
 rfl
theorem PR.zero (l : List UInt8) (mv : Value) : PR l mv {} (parC (.slice none 0 0) 0 0 0 0 0 0 {}) := ⟨_, _, _, _, _, _, _, rfl, ⟨.inr rfl, by decide, by decide, by decide⟩, fun h => absurd h (by decide)⟩
end
def pE (b5 b6 : Nat) (mv stv sv : Value) (n j : Nat) : Env :=
 upd (upd (upd (upd (upd (upd (upd emp 18 (.int .i64 j)) 17 (.int .i64 n)) 16 stv) 7 sv) 6 (.pointer (some ⟨b6, 0, none⟩))) 5 (.pointer (some ⟨b5, 0, none⟩))) 0 mv
theorem pE_sub {b5 b6 : Nat} {mv stv sv : Value} {n j : Nat} {ρ : Env} (h0 : ρ 0 = some mv) (h5 : ρ 5 = some (.pointer (some ⟨b5, 0, none⟩))) (h6 : ρ 6 = some (.pointer (some ⟨b6, 0, none⟩))) (h7 : ρ 7 = some sv) (h16 : ρ 16 = some stv)
  (h17 : ρ 17 = some (.int .i64 n)) (h18 : ρ 18 = some (.int .i64 j)) : Sub (pE b5 b6 mv stv sv n j) ρ :=
 aL h0 (aL h5 (aL h6 (aL h7 (aL h16 (aL h17 (aL h18 (bG _)))))))
def pI (b5 b6 : Nat) (mv stv sv : Value) (n j : Nat) (st : Int) (b10 : Nat) : Env := upd (upd (pE b5 b6 mv stv sv n j) 9 (.int .i64 st)) 10 (.pointer (some ⟨b10, 0, none⟩))
theorem pI_sub {b5 b6 : Nat} {mv stv sv : Value} {n j b10 : Nat} {st : Int} {ρ : Env} (h10 : ρ 10 = some (.pointer (some ⟨b10, 0, none⟩))) (h9 : ρ 9 = some (.int .i64 st)) (h0 : ρ 0 = some mv) (h5 : ρ 5 = some (.pointer (some ⟨b5, 0, none⟩))) (h6 : ρ 6 = some (.pointer (some ⟨b6, 0, none⟩))) (h7 : ρ 7 = some sv) (h16 : ρ 16 = some stv)
  (h17 : ρ 17 = some (.int .i64 n)) (h18 : ρ 18 = some (.int .i64 j)) : Sub (pI b5 b6 mv stv sv n j st b10) ρ :=
 aL h10 (aL h9 (pE_sub h0 h5 h6 h7 h16 h17 h18))
section
variable {A : Nat → Addr} {V : Vw} {w0 : World} {l : List UInt8} {mv : Value}
set_option maxHeartbeats 4000000 in
theorem c_parse (hG : Gl A V) (hV : V.In w0) (hb : RB V mv l) (h2l : l.length ≤ 4294967296) {stv : Value} {steps : List Int} (hst : SlV V 1 stv steps.length (steps.map fun i => .int .i64 i)) (hsn : steps.length ≤ 4294967296) :
  CallsV Tryz.prog 16 #[mv, stv] w0 fun v w' => ∃ V' : Vw, St ⟨w0, V, V'⟩ w' [] ∧ RSeens V' v (parseM l steps) := by
 obtain ⟨a, cap, rfl, hcap, ha⟩ := hst.form
 have hmv := hb.oneCell
 have hs := St.start hV
 refine aT [_, _] Tryz.func16 Tryz.ntmps16 Tryz.results16 rfl rfl (dP (dN rfl rfl (aH (dP (lp (bM (vs := []) (ps := []) rfl bz_100) rfl (aJ (aX hs z_100 rfl (fun b5 w hb5 he5 hs => aJ (dR 0 hs k_100 rfl rfl rfl (by simp) (by simp) (aG (by decide +kernel)) rfl (fun w hs => aH (dP (lp (aO rfl (aP k_100 (hs.g 0 rfl) (by simp))) rfl (aJ (aX hs z_100 rfl (fun b6 w hb6 he6 hs => aJ (dR 0 hs k_100 rfl rfl rfl (by simp) (by simp) (aG (by decide +kernel)) rfl (fun w hs => ?_)))))))))))))))))
 obtain ⟨ks, cs, hk0, hc0, hs⟩ : ∃ ks cs : List Value, PR l mv {} ks ∧ PR l mv {} cs ∧ St ⟨w0, V, V⟩ w [(b6, .cells ks.toArray 100 (0, 0)), (b5, .cells cs.toArray 100 (0, 0))] := ⟨_, _, PR.zero l mv, PR.zero l mv, hs⟩
 refine aH (dP (aJ (o_bslice0 es_60 hs rfl (fun b15 w hb15 he15 hs => ?_))))
 have hsl : Sl 81 13 ⟨w0, V, V⟩ w [(b6, .cells ks.toArray 100 (0, 0)), (b5, .cells cs.toArray 100 (0, 0))] (.slice (some ⟨b15, 0, none⟩) 0 0) 0 [] := ⟨rfl, .inr ⟨b15, 0, [], rfl, rfl, by omega, by decide, hb15, hs⟩⟩
 refine dN rfl rfl (aH (aF (dP (dM rfl rfl (lp (bC Tryz.underlying62 rfl) rfl (dM rfl rfl (aH (bQ (dC (fun g : Nat × PM × PM × List Value × List Value × List Value × Value × Vw => pE b5 b6 mv (.slice a steps.length cap) g.2.2.2.2.2.2.1 steps.length g.1) (fun g w' => Sl 81 13 ⟨w0, V, g.2.2.2.2.2.2.2⟩ w' [(b6, .cells g.2.2.2.2.1.toArray 100 (0, 0)), (b5, .cells g.2.2.2.1.toArray 100 (0, 0))] g.2.2.2.2.2.2.1 g.1 g.2.2.2.2.2.1 ∧ Rows 13 (RSeen g.2.2.2.2.2.2.2) (runM l {} {} (steps.take g.1)) g.2.2.2.2.2.1 ∧ PR l mv g.2.1 g.2.2.2.1 ∧ PR l mv g.2.2.1 g.2.2.2.2.1 ∧ WF l g.2.1 ∧ WF l g.2.2.1 ∧ endM l {} {} (steps.take g.1) = (g.2.1, g.2.2.1) ∧ g.1 ≤ steps.length) (fun g => steps.length - g.1) (0, {}, {}, cs, ks, [], .slice (some ⟨b15, 0, none⟩) 0 0, V) (pE_sub rfl rfl rfl rfl rfl rfl rfl) ⟨hsl, rfl, hc0, hk0, wf_init l, wf_init l, rfl, Nat.zero_le _⟩ ?_)))))))))
 clear hsl hs hk0 hc0
 rintro ⟨j, m, kept, cs, ks, ys, sv, Vc⟩ w ⟨hsl, hrows, hp, hpk, hwf, hwfk, hend, hj⟩
 simp only at hsl hrows hp hpk hwf hwfk hend hj ⊢
 have hle := hsl.st.view
 refine dP (lp (cY rfl rfl) rfl (aH (aF (bH rfl (fun hc0 => ?_) (fun hc0 => ?_)))))
 obtain ⟨b, p, rfl, hc⟩ := ha (by omega)
 have hjl : j < steps.length := by omega
 obtain ⟨st, hstj⟩ : ∃ st, steps[j]? = some st := ⟨_, List.getElem?_eq_getElem hjl⟩
 replace hG := hG.mono hle
 replace hb := hb.mono hle
 obtain ⟨X, hX, hs⟩ := hsl.open
 refine aW (aF (bQ (dP (lp (po_iaN j (p + j * 1) es_62 rfl rfl rfl hjl rfl) rfl (lp (aO rfl (bR (v := .int .i64 st) cH (by rw [Nat.mul_one]; exact Vw.cell_in hs.isIn (Vw.cell_le hle (hc _ _ (by simp [hstj])))))) rfl (dN rfl rfl (aH (dP (lp (bM (vs := []) (ps := []) rfl bz_81) rfl (aJ (aX hs z_81 rfl (fun b10 w hb10 he10 hs => aJ (dR 0 hs k_81 rfl rfl rfl (by simp) (by simp) (aG (by decide +kernel)) rfl (fun w hs => ?_))))))))))))))
 obtain ⟨sz, hsz, hszl, hs⟩ : ∃ sz : List Value, .int .i64 0 :: (headC 0 0 ++ [.slice none 0 0, .slice none 0 0]) = sz ∧ sz.length = 13 ∧ St ⟨w0, V, Vc⟩ w ([(b10, .cells sz.toArray 81 (0, 0)), (b6, .cells ks.toArray 100 (0, 0)), (b5, .cells cs.toArray 100 (0, 0))] ++ X) := ⟨_, rfl, rfl, hs⟩
 refine aH (dG (fun ρ w => ∃ (b10 : Nat) (V' : Vw) (cs' ks' sc : List Value) (s : PSeen) (m' kept' : PM), w0.heap.size ≤ b10 ∧ Sub (pI b5 b6 mv (.slice (some ⟨b, p, none⟩) steps.length cap) sv steps.length j st b10) ρ ∧ Vc.le V' ∧ St ⟨w0, V, V'⟩ w ([(b10, .cells sc.toArray 81 (0, 0)), (b6, .cells ks'.toArray 100 (0, 0)), (b5, .cells cs'.toArray 100 (0, 0))] ++ X) ∧ stepM l m kept st = (s, m', kept') ∧ PR l mv m' cs' ∧ PR l mv kept' ks' ∧ WF l m' ∧ WF l kept' ∧ RSeen V' s sc) ?_ ?_)
 refine bQ (dP (dM rfl rfl (lp (bI rfl rfl) rfl (dN rfl rfl (aH (bH rfl (fun hc1 => ?_) (fun hc1 => ?_)))))))
 subst hc1
 refine dP (dM rfl rfl (aZ ok_35 rfl rfl (c_start hG hs.isIn hb (hs.g 2 rfl) (hs.off (k := 2) rfl) hp hwf h2l) rfl (fun v29 w HF => ?_)))
 obtain ⟨cs', hcs, e, k, m', rfl, hc2, hp, he, hhl, hhf, hr⟩ := HF
 replace hs := hs.frame1 (k := 2) rfl rfl hc2
 refine dM rfl rfl (dO rfl rfl rfl (dO rfl rfl rfl (aJ (aX hs z_50 rfl (fun b11 w hb11 he11 hs => aJ (dR 0 hs k_50 rfl rfl rfl hhl rfl hhf rfl (fun w hs => dN rfl rfl (aH (dP (dM rfl rfl (aZ ok_36 rfl rfl (c_faultOf hG hs.isIn he) rfl (fun v33 w HF => ?_))))))))))))
 obtain ⟨rfl, hc2⟩ := HF
 replace hs := hs.frame hc2
 refine lp (bL rfl (by rfl) (bu_81_0 _)) rfl (aJ (dR 1 hs k_81 rfl rfl rfl rfl hszl (aG rfl) rfl (fun w hs => aH (dP (dM rfl rfl (lp (po_err_eq_nil he rfl) rfl (aH (bH rfl (fun hc2 => ?_) (fun hc2 => ?_)))))))))
 have hk : k = .ok := by simpa using hc2
 subst hk
 obtain ⟨hlen, hm', rfl⟩ : 12 ≤ l.length ∧ m' = { sec := 1, at_ := 12 } ∧ hcs = headC (w16 l 0) (w16 l 2) := by
  rcases hr with ⟨h1, _, h2, h3⟩ | ⟨_, h, _⟩
  exact ⟨h1, h2, h3⟩
  cases h
 subst hm'
 refine aB (lp (aO rfl (aP k_50 (hs.g 0 rfl) rfl)) rfl (aZ ok_18 rfl rfl (c_headOf hs.isIn (w16 l 0) (w16 l 2)) rfl (fun v38 w HF => ?_)))
 obtain ⟨rfl, hc3⟩ := HF
 replace hs := hs.frame hc3
 refine lp (aR fo_81_1 rfl) rfl (aJ (o_storeA (k := 1) (p := 1) hs bZ rfl rfl rfl rfl (by decide) (flat_headC _ _) rfl (fun w hs => aH ?_)))
 exact ⟨b10, Vc, cs', ks, _, { id := w16 l 0, bits := w16 l 2 }, { sec := 1, at_ := 12 }, kept, hb10, pI_sub rfl rfl rfl rfl rfl rfl rfl rfl rfl, Vc.le_refl, hs.drop hb11, stepM_1ok hlen, hp, hpk, wf_start hlen, hwfk, ⟨.slice none 0 0, .slice none 0 0, rfl, RAsks.nil Vc, RRecs.nil Vc⟩⟩
 refine aW ?_
 obtain ⟨hlen, hk, hm'⟩ : l.length < 12 ∧ k = .other ∧ m' = {} := by
  rcases hr with ⟨_, h, _⟩ | h
  exact absurd h hc2
  exact h
 subst hk hm'
 exact ⟨b10, Vc, cs', ks, _, { fault := 3 }, {}, kept, hb10, pI_sub rfl rfl rfl rfl rfl rfl rfl rfl rfl, Vc.le_refl, hs.drop hb11, stepM_1no hlen, hp, hpk, wf_init l, hwfk, RSeen.fault Vc .other⟩
 refine dG (fun ρ w => Sub (upd (pI b5 b6 mv (.slice (some ⟨b, p, none⟩) steps.length cap) sv steps.length j st b10) 40 (.bool (decide (2 ≤ st ∧ st ≤ 5)))) ρ ∧ St ⟨w0, V, Vc⟩ w ([(b10, .cells sz.toArray 81 (0, 0)), (b6, .cells ks.toArray 100 (0, 0)), (b5, .cells cs.toArray 100 (0, 0))] ++ X)) ?_ ?_
 cases hg : decide (2 ≤ st)
 refine aB (dM rfl rfl (lp (po_geq rfl rfl) rfl (dM rfl rfl (aU rfl rfl hg rfl (aU rfl rfl hg rfl (lp (bW rfl (by assumption) rfl) rfl (dN rfl rfl (aH ?_))))))))
 have hval : (false : Bool) = decide (2 ≤ st ∧ st ≤ 5) := by symm; apply decide_eq_false; have := of_decide_eq_false hg; omega
 exact ⟨aL (congrArg (fun t => some (Value.bool t)) hval) (pI_sub rfl rfl rfl rfl rfl rfl rfl rfl rfl), hs⟩
 refine aB (dM rfl rfl (lp (po_geq rfl rfl) rfl (dM rfl rfl (lg rfl rfl hg (aC rfl) rfl (lg rfl rfl hg (po_leq rfl rfl) rfl (lp (bO rfl (by assumption) rfl) rfl (dN rfl rfl (aH ?_))))))))
 have hval : decide (st ≤ 5) = decide (2 ≤ st ∧ st ≤ 5) := by have := of_decide_eq_true hg; apply decide_eq_decide.2; omega
 exact ⟨aL (congrArg (fun t => some (Value.bool t)) hval) (pI_sub rfl rfl rfl rfl rfl rfl rfl rfl rfl), hs⟩
 clear hs
 rintro ρ w ⟨hsub, hs⟩
 refine EW.weaken hsub (bH rfl (fun hc3 => ?_) (fun hc3 => ?_))
 refine aB (dM rfl rfl (aZ ok_37 rfl rfl (c_iquestion hG hs.isIn hb (hs.g 2 rfl) (hs.off (k := 2) rfl) hp hwf h2l st.toNat (by omega) (by omega) (by omega)) rfl (fun v48 w HF => ?_)))
 obtain ⟨V1, cs', sc, s, m', rfl, hc2, hm, hp, hwf', hRS⟩ := HF
 have hle1 := hc2.view
 replace hs := hs.frame1 (k := 2) rfl rfl hc2
 refine aJ (dR 0 hs k_81 rfl rfl rfl hRS.flat.2 hszl hRS.flat.1 rfl (fun w hs => aH ?_))
 exact ⟨b10, V1, cs', ks, sc, _, m', kept, hb10, pI_sub rfl rfl rfl rfl rfl rfl rfl rfl rfl, hle1, hs, by rw [stepM_q hc3.1 hc3.2, hm], hp, hpk, hwf', hwfk, hRS⟩
 refine dG (fun ρ w => Sub (upd (pI b5 b6 mv (.slice (some ⟨b, p, none⟩) steps.length cap) sv steps.length j st b10) 49 (.bool (decide (6 ≤ st ∧ st ≤ 10)))) ρ ∧ St ⟨w0, V, Vc⟩ w ([(b10, .cells sz.toArray 81 (0, 0)), (b6, .cells ks.toArray 100 (0, 0)), (b5, .cells cs.toArray 100 (0, 0))] ++ X)) ?_ ?_
 cases hg : decide (6 ≤ st)
 refine aB (dM rfl rfl (lp (po_geq rfl rfl) rfl (dM rfl rfl (aU rfl rfl hg rfl (aU rfl rfl hg rfl (lp (bW rfl (by assumption) rfl) rfl (dN rfl rfl (aH ?_))))))))
 have hval : (false : Bool) = decide (6 ≤ st ∧ st ≤ 10) := by symm; apply decide_eq_false; have := of_decide_eq_false hg; omega
 exact ⟨aL (congrArg (fun t => some (Value.bool t)) hval) (pI_sub rfl rfl rfl rfl rfl rfl rfl rfl rfl), hs⟩
 refine aB (dM rfl rfl (lp (po_geq rfl rfl) rfl (dM rfl rfl (lg rfl rfl hg (aC rfl) rfl (lg rfl rfl hg (po_leq rfl rfl) rfl (lp (bO rfl (by assumption) rfl) rfl (dN rfl rfl (aH ?_))))))))
 have hval : decide (st ≤ 10) = decide (6 ≤ st ∧ st ≤ 10) := by have := of_decide_eq_true hg; apply decide_eq_decide.2; omega
 exact ⟨aL (congrArg (fun t => some (Value.bool t)) hval) (pI_sub rfl rfl rfl rfl rfl rfl rfl rfl rfl), hs⟩
 clear hs
 rintro ρ w ⟨hsub, hs⟩
 refine EW.weaken hsub (bH rfl (fun hc4 => ?_) (fun hc4 => ?_))
 refine aB (dM rfl rfl (aZ ok_38 rfl rfl (c_ianswer hG hs.isIn hb (hs.g 2 rfl) (hs.off (k := 2) rfl) hp hwf h2l st.toNat (by omega) (by omega) (by omega)) rfl (fun v57 w HF => ?_)))
 obtain ⟨V1, cs', sc, s, m', rfl, hc2, hm, hp, hwf', hRS⟩ := HF
 have hle1 := hc2.view
 replace hs := hs.frame1 (k := 2) rfl rfl hc2
 refine aJ (dR 0 hs k_81 rfl rfl rfl hRS.flat.2 hszl hRS.flat.1 rfl (fun w hs => aH ?_))
 exact ⟨b10, V1, cs', ks, sc, _, m', kept, hb10, pI_sub rfl rfl rfl rfl rfl rfl rfl rfl rfl, hle1, hs, by rw [stepM_p (s := 2) (b := 6) (by decide) (by omega) (by omega), hm], hp, hpk, hwf', hwfk, hRS⟩
 refine dG (fun ρ w => Sub (upd (pI b5 b6 mv (.slice (some ⟨b, p, none⟩) steps.length cap) sv steps.length j st b10) 58 (.bool (decide (11 ≤ st ∧ st ≤ 15)))) ρ ∧ St ⟨w0, V, Vc⟩ w ([(b10, .cells sz.toArray 81 (0, 0)), (b6, .cells ks.toArray 100 (0, 0)), (b5, .cells cs.toArray 100 (0, 0))] ++ X)) ?_ ?_
 cases hg : decide (11 ≤ st)
 refine aB (dM rfl rfl (lp (po_geq rfl rfl) rfl (dM rfl rfl (aU rfl rfl hg rfl (aU rfl rfl hg rfl (lp (bW rfl (by assumption) rfl) rfl (dN rfl rfl (aH ?_))))))))
 have hval : (false : Bool) = decide (11 ≤ st ∧ st ≤ 15) := by symm; apply decide_eq_false; have := of_decide_eq_false hg; omega
 exact ⟨aL (congrArg (fun t => some (Value.bool t)) hval) (pI_sub rfl rfl rfl rfl rfl rfl rfl rfl rfl), hs⟩
 refine aB (dM rfl rfl (lp (po_geq rfl rfl) rfl (dM rfl rfl (lg rfl rfl hg (aC rfl) rfl (lg rfl rfl hg (po_leq rfl rfl) rfl (lp (bO rfl (by assumption) rfl) rfl (dN rfl rfl (aH ?_))))))))
 have hval : decide (st ≤ 15) = decide (11 ≤ st ∧ st ≤ 15) := by have := of_decide_eq_true hg; apply decide_eq_decide.2; omega
 exact ⟨aL (congrArg (fun t => some (Value.bool t)) hval) (pI_sub rfl rfl rfl rfl rfl rfl rfl rfl rfl), hs⟩
 clear hs
 rintro ρ w ⟨hsub, hs⟩
 refine EW.weaken hsub (bH rfl (fun hc5 => ?_) (fun hc5 => ?_))
 refine aB (dM rfl rfl (aZ ok_39 rfl rfl (c_iauthority hG hs.isIn hb (hs.g 2 rfl) (hs.off (k := 2) rfl) hp hwf h2l st.toNat (by omega) (by omega) (by omega)) rfl (fun v66 w HF => ?_)))
 obtain ⟨V1, cs', sc, s, m', rfl, hc2, hm, hp, hwf', hRS⟩ := HF
 have hle1 := hc2.view
 replace hs := hs.frame1 (k := 2) rfl rfl hc2
 refine aJ (dR 0 hs k_81 rfl rfl rfl hRS.flat.2 hszl hRS.flat.1 rfl (fun w hs => aH ?_))
 exact ⟨b10, V1, cs', ks, sc, _, m', kept, hb10, pI_sub rfl rfl rfl rfl rfl rfl rfl rfl rfl, hle1, hs, by rw [stepM_p (s := 3) (b := 11) (by decide) (by omega) (by omega), hm], hp, hpk, hwf', hwfk, hRS⟩
 refine dG (fun ρ w => Sub (upd (pI b5 b6 mv (.slice (some ⟨b, p, none⟩) steps.length cap) sv steps.length j st b10) 67 (.bool (decide (16 ≤ st ∧ st ≤ 20)))) ρ ∧ St ⟨w0, V, Vc⟩ w ([(b10, .cells sz.toArray 81 (0, 0)), (b6, .cells ks.toArray 100 (0, 0)), (b5, .cells cs.toArray 100 (0, 0))] ++ X)) ?_ ?_
 cases hg : decide (16 ≤ st)
 refine aB (dM rfl rfl (lp (po_geq rfl rfl) rfl (dM rfl rfl (aU rfl rfl hg rfl (aU rfl rfl hg rfl (lp (bW rfl (by assumption) rfl) rfl (dN rfl rfl (aH ?_))))))))
 have hval : (false : Bool) = decide (16 ≤ st ∧ st ≤ 20) := by symm; apply decide_eq_false; have := of_decide_eq_false hg; omega
 exact ⟨aL (congrArg (fun t => some (Value.bool t)) hval) (pI_sub rfl rfl rfl rfl rfl rfl rfl rfl rfl), hs⟩
 refine aB (dM rfl rfl (lp (po_geq rfl rfl) rfl (dM rfl rfl (lg rfl rfl hg (aC rfl) rfl (lg rfl rfl hg (po_leq rfl rfl) rfl (lp (bO rfl (by assumption) rfl) rfl (dN rfl rfl (aH ?_))))))))
 have hval : decide (st ≤ 20) = decide (16 ≤ st ∧ st ≤ 20) := by have := of_decide_eq_true hg; apply decide_eq_decide.2; omega
 exact ⟨aL (congrArg (fun t => some (Value.bool t)) hval) (pI_sub rfl rfl rfl rfl rfl rfl rfl rfl rfl), hs⟩
 clear hs
 rintro ρ w ⟨hsub, hs⟩
 refine EW.weaken hsub (bH rfl (fun hc6 => ?_) (fun hc6 => ?_))
 refine aB (dM rfl rfl (aZ ok_40 rfl rfl (c_iadditional hG hs.isIn hb (hs.g 2 rfl) (hs.off (k := 2) rfl) hp hwf h2l st.toNat (by omega) (by omega) (by omega)) rfl (fun v75 w HF => ?_)))
 obtain ⟨V1, cs', sc, s, m', rfl, hc2, hm, hp, hwf', hRS⟩ := HF
 have hle1 := hc2.view
 replace hs := hs.frame1 (k := 2) rfl rfl hc2
 refine aJ (dR 0 hs k_81 rfl rfl rfl hRS.flat.2 hszl hRS.flat.1 rfl (fun w hs => aH ?_))
 exact ⟨b10, V1, cs', ks, sc, _, m', kept, hb10, pI_sub rfl rfl rfl rfl rfl rfl rfl rfl rfl, hle1, hs, by rw [stepM_p (s := 4) (b := 16) (by decide) (by omega) (by omega), hm], hp, hpk, hwf', hwfk, hRS⟩
 refine dG (fun ρ w => Sub (upd (pI b5 b6 mv (.slice (some ⟨b, p, none⟩) steps.length cap) sv steps.length j st b10) 76 (.bool (decide (20 < st ∧ st ≤ 33)))) ρ ∧ St ⟨w0, V, Vc⟩ w ([(b10, .cells sz.toArray 81 (0, 0)), (b6, .cells ks.toArray 100 (0, 0)), (b5, .cells cs.toArray 100 (0, 0))] ++ X)) ?_ ?_
 cases hg : decide (20 < st)
 refine aB (dM rfl rfl (lp (cQ rfl rfl) rfl (dM rfl rfl (aU rfl rfl hg rfl (aU rfl rfl hg rfl (lp (bW rfl (by assumption) rfl) rfl (dN rfl rfl (aH ?_))))))))
 have hval : (false : Bool) = decide (20 < st ∧ st ≤ 33) := by symm; apply decide_eq_false; have := of_decide_eq_false hg; omega
 exact ⟨aL (congrArg (fun t => some (Value.bool t)) hval) (pI_sub rfl rfl rfl rfl rfl rfl rfl rfl rfl), hs⟩
 refine aB (dM rfl rfl (lp (cQ rfl rfl) rfl (dM rfl rfl (lg rfl rfl hg (aC rfl) rfl (lg rfl rfl hg (po_leq rfl rfl) rfl (lp (bO rfl (by assumption) rfl) rfl (dN rfl rfl (aH ?_))))))))
 have hval : decide (st ≤ 33) = decide (20 < st ∧ st ≤ 33) := by have := of_decide_eq_true hg; apply decide_eq_decide.2; omega
 exact ⟨aL (congrArg (fun t => some (Value.bool t)) hval) (pI_sub rfl rfl rfl rfl rfl rfl rfl rfl rfl), hs⟩
 clear hs
 rintro ρ w ⟨hsub, hs⟩
 refine EW.weaken hsub (bH rfl (fun hc7 => ?_) (fun hc7 => ?_))
 refine aB (dM rfl rfl (lp (po_sub rfl rfl (i64w (by omega))) rfl (aZ ok_41 rfl rfl (c_ibody hG hs.isIn hb (hs.g 2 rfl) (hs.off (k := 2) rfl) hp hwf h2l (st.toNat - 20) (by omega) (by omega) (by omega)) rfl (fun v85 w HF => ?_))))
 obtain ⟨V1, cs', sc, k, ro, m', rfl, hc2, hm, hp, hwf', hRS⟩ := HF
 have hle1 := hc2.view
 replace hs := hs.frame1 (k := 2) rfl rfl hc2
 refine aJ (dR 0 hs k_81 rfl rfl rfl hRS.flat.2 hszl hRS.flat.1 rfl (fun w hs => aH ?_))
 exact ⟨b10, V1, cs', ks, sc, _, m', kept, hb10, pI_sub rfl rfl rfl rfl rfl rfl rfl rfl rfl, hle1, hs, by rw [stepM_b hc7.1 hc7.2, hm], hp, hpk, hwf', hwfk, hRS⟩
 refine dP (dM rfl rfl (lp (bI rfl rfl) rfl (dN rfl rfl (aH (bH rfl (fun hc8 => ?_) (fun hc8 => ?_))))))
 refine aB (lp (aO rfl (aP k_100 (hs.g 2 rfl) (hp.len hmv).1)) rfl (aJ (dR 1 hs k_100 rfl rfl rfl (hp.len hmv).1 (hpk.len hmv).1 (hp.len hmv).2 rfl (fun w hs => aH ?_))))
 exact ⟨b10, Vc, cs, cs, sz, {}, m, m, hb10, pI_sub rfl rfl rfl rfl rfl rfl rfl rfl rfl, Vc.le_refl, hs, by rw [hc8, stepM_40], hp, hp, hwf, hwf, hsz ▸ RSeen.fault Vc .ok⟩
 refine dP (dM rfl rfl (lp (bI rfl rfl) rfl (dN rfl rfl (aH (bH rfl (fun hc9 => ?_) (fun hc9 => ?_))))))
 refine aB (lp (aO rfl (aP k_100 (hs.g 1 rfl) (hpk.len hmv).1)) rfl (aJ (dR 2 hs k_100 rfl rfl rfl (hpk.len hmv).1 (hp.len hmv).1 (hpk.len hmv).2 rfl (fun w hs => aH ?_))))
 exact ⟨b10, Vc, ks, ks, sz, {}, kept, kept, hb10, pI_sub rfl rfl rfl rfl rfl rfl rfl rfl rfl, Vc.le_refl, hs, by rw [hc9, stepM_41], hpk, hpk, hwfk, hwfk, hsz ▸ RSeen.fault Vc .ok⟩
 refine aB (lp (aR fo_81_0 rfl) rfl ?_)
 subst hsz
 refine aJ (dQ 0 hs cH rfl rfl rfl rfl rfl rfl rfl (fun w hs => aH ?_))
 exact ⟨b10, Vc, cs, ks, _, { fault := 3 }, m, kept, hb10, pI_sub rfl rfl rfl rfl rfl rfl rfl rfl rfl, Vc.le_refl, hs, stepM_d hc1 hc3 (by omega) hc7 hc8 hc9, hp, hpk, hwf, hwfk, RSeen.fault Vc .other⟩
 clear hs
 rintro ρ w ⟨b10, V', cs', ks', sc, s, m', kept', hb10, hsub, hle', hs, hstep, hp', hpk', hwf', hwfk', hRS⟩
 refine EW.weaken hsub (aB (dM rfl rfl (lp (aO rfl (aP k_81 (hs.g 0 rfl) hRS.flat.2)) rfl (l_app1 (cl := sc) el_60 (SlX.close (L := [_, _, _]) hX hs) (fun _ => rfl) rfl rfl hRS.flat.2 hRS.flat.1 (by omega) (by omega) (by omega) rfl rfl (fun b16 sv' w hs => ?_)))))
 replace hs := hs.drop hb10
 skip
 refine dN rfl rfl (aH (aB (lp (bN rfl rfl (i64c (c := j + 1) (by omega) (by omega))) rfl (dM rfl rfl (aH ?_)))))
 obtain ⟨hrun, hend'⟩ := run_snoc hstj hend hstep
 exact ⟨(j + 1, m', kept', cs', ks', _, sv', V'), pE_sub rfl rfl rfl rfl rfl rfl rfl, ⟨hs, by
  show Rows 13 (RSeen V') (runM l {} {} (steps.take (j + 1))) _
  rw [hrun]
  exact Rows.snoc (hrows.mono fun _ _ h => h.mono hle') hRS hRS.flat.2, hp', hpk', hwf', hwfk', hend', by simp only; omega⟩, by simp only; omega⟩
 refine e_exit (aF ?_)
 have hjn : j = steps.length := by omega
 subst hjn
 rw [List.take_length] at hrows
 obtain ⟨V', hle', hsv, hs⟩ := hsl.give
 refine aB (dM rfl rfl (dN rfl rfl (aH (aV ⟨_, res1 rfl, ?_⟩))))
 exact ⟨V', (hs.drop hb6).drop hb5, _, by unfold parseM; rw [runM_len]; exact hsv, hrows.mono fun _ _ h => h.mono hle'⟩
end
end Go.Proofs.YtgpfjlfkaoffeaaGreatDoor

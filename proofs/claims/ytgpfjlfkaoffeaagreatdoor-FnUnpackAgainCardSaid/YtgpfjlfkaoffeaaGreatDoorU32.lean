/- The reference's machine: a step of a section. The reference's run. Two values of the same things are told the same. -/
import Derived.Test.YtgpfjlfkaoffeaaGreatDoorU31
import Derived.Test.YtgpfjlfkaoffeaaGreatDoorU23
set_option linter.all false
namespace Go.Proofs.YtgpfjlfkaoffeaaGreatDoor
open Go
section
variable {V : Vw} {w0 : World} {l : List UInt8} {mv : Value} {bp : Nat} {E : TypeId} {m : PM} {cs : List Value}
set_option maxHeartbeats 4000000 in
theorem c_mpart2 (hV : V.In w0) (hb : RB V mv l) (hown : w0.heap[bp]? = some (.cells cs.toArray E (0, 0))) (hvn : V bp = none) (hp : MR l mv m cs) (hwf : WF l m) (h2l : l.length ≤ 4294967296) (s : Nat) {sv : Int} (hsv : sv = (s : Int) - 1) (h1 : 1 ≤ s) (h2 : s ≤ 4) :
  eC Tryz.prog 56 #[.pointer (some ⟨bp, 0, none⟩), .int .i64 sv, .int .i64 2] w0 fun v w' => ∃ (V' : Vw) (cs' sc : List Value) (z : PSeen) (m' : PM), v = .agg sc.toArray ∧ St ⟨w0, V, V'⟩ w' [(bp, .cells cs'.toArray E (0, 0))] ∧ partM l m s 2 = (z, m') ∧ MR l mv m' cs' ∧ WF l m' ∧ RSeen V' z sc := by
 have hs := St.start1 hV hown (bU _ _) hvn
 refine aT [_, _, _] Tryz.func56 Tryz.ntmps56 Tryz.results56 rfl rfl (dP (aJ (aX hs z_81 rfl (fun b6 w hb6 he6 hs => ?_))))
 obtain ⟨zz, hzl, hs⟩ : ∃ zz : List Value, zz.length = 13 ∧ St ⟨w0, V, V⟩ w [(b6, .cells zz.toArray 81 (0, 0)), (bp, .cells cs.toArray E (0, 0))] := ⟨_, rfl, hs⟩
 refine aH (dP (lp (bM (vs := []) (ps := []) rfl bz_81) rfl (aJ (aX hs z_81 rfl (fun b7 w hb7 he7 hs => aJ (dR 0 hs k_81 rfl rfl rfl (by simp) (by simp) (aG (by decide +kernel)) rfl (fun w hs => ?_)))))))
 replace hs : St ⟨w0, V, V⟩ _ [(b7, .cells (seC 0 (.slice none 0 0) (.slice none 0 0)).toArray 81 (0, 0)), (b6, .cells zz.toArray 81 (0, 0)), (bp, .cells cs.toArray E (0, 0))] := hs
 refine aH (aF (dP (dM rfl rfl (aH (bQ (aF (dP (lp (bI rfl rfl) rfl (dN rfl rfl (aH (aY rfl rfl (aB (lp (bI rfl rfl) rfl ?_)))))))))))))
 refine dN rfl rfl (aH (aY rfl rfl (dP (lp (bI rfl rfl) rfl (dN rfl rfl (aH (cO rfl rfl (bQ (dC (fun g : PM × Nat × List Value × List fY × List Value × Value × Vw => (eH (eH (eH (eH emp 7 (.pointer (some ⟨b7, 0, none⟩))) 6 (.pointer (some ⟨b6, 0, none⟩))) 1 (.int .i64 sv)) 0 (.pointer (some ⟨bp, 0, none⟩)))) (fun g w' => Sl 30 16 ⟨w0, V, g.2.2.2.2.2.2⟩ w' [(b7, .cells (seC 0 (.slice none 0 0) g.2.2.2.2.2.1).toArray 81 (0, 0)), (b6, .cells zz.toArray 81 (0, 0)), (bp, .cells g.2.2.1.toArray E (0, 0))] g.2.2.2.2.2.1 g.2.2.2.1.length g.2.2.2.2.1 ∧ Rows 16 (RRec g.2.2.2.2.2.2) g.2.2.2.1 g.2.2.2.2.1 ∧ MR l mv g.1 g.2.2.1 ∧ WF l g.1 ∧ eR l s g.2.1 g.1 g.2.2.2.1 = eR l s fuel m [] ∧ 1 ≤ g.2.1 ∧ (g.1.sec = s → count l s - g.1.index < g.2.1) ∧ g.2.1 + g.2.2.2.1.length = fuel) (fun g => g.2.1) (m, fuel, cs, [], [], .slice none 0 0, V) (aL rfl (aL rfl (aL rfl (aL rfl (bG _))))) ⟨Sl.nil hs, rfl, hp, hwf, rfl, (by decide : 1 ≤ fuel), fun _ => by have := cW l s; show _ < 65537; omega, rfl⟩ ?_)))))))))
 clear hs hp hwf
 rintro ⟨mm, f, cc, acc, xs, sv, Vc⟩ w ⟨hsl, hrows, hp, hwf, heq, hf1, hf2, hf3⟩
 simp only at hsl hrows hp hwf heq hf1 hf2 hf3 ⊢
 have hfu : fuel = 65537 := rfl
 obtain ⟨f, rfl⟩ : ∃ f', f = f' + 1 := ⟨f - 1, by omega⟩
 have hle := hsl.st.view
 replace hb := hb.mono hle
 obtain ⟨sa, scap, rfl⟩ := hsl.size
 obtain ⟨X, hX, hs⟩ := hsl.open
 refine bQ (dP (dM rfl rfl (dM rfl rfl (aZ ok_124 rfl rfl (c_mrecord hs.isIn hb (hs.g 2 rfl) (hs.off (k := 2) rfl) hp hwf h2l s hsv h1 h2) rfl (fun v55 w HF => ?_)))))
 obtain ⟨V1, cs', rcs, k, ro, m', rfl, hc, hm, hp', hal, haf, ha⟩ := HF
 have hle1 := hc.view
 replace hs := hs.frame1 (k := 2) rfl rfl hc
 have hwf' := wf_recordM hwf h1 h2
 rw [hm] at hwf'
 rw [eR, hm] at heq
 refine dM rfl rfl (dO rfl rfl rfl (dO rfl rfl rfl (aJ (aX hs z_30 rfl (fun b10 w hb10 he10 hs => aJ (dR 0 hs eJ rfl rfl rfl hal rfl haf rfl (fun w hs => dN rfl rfl (aH (aF (dP (dM rfl rfl (lp (bI rfl rfl) rfl (aH (bH rfl (fun hc3 => ?_) (fun hc3 => ?_)))))))))))))))
 refine dP (lp (aO rfl (aP k_81 (hs.g 1 rfl) rfl)) rfl (aJ (dR 2 hs k_81 rfl rfl rfl rfl hzl (seC_flat rfl rfl) rfl (fun w hs => aH (aV ⟨_, fW ⟨_, rfl, aP k_81 (hs.g 2 rfl) rfl⟩, ?_⟩)))))
 have hkd := num_eq2.1 hc3
 subst hkd
 replace hs := ((SlX.close (L := [_, _, _, _]) hX hs).drop hb10).drop hb7 |>.drop hb6
 obtain ⟨V', hle', hsv, hs⟩ := hs.give
 have hRA : RRecs V' (.slice sa acc.length scap) acc := ⟨xs, hsv, hrows.mono fun _ _ h => h.mono (Vw.le_trans hle1 hle')⟩
 exact ⟨V', _, _, _, m', rfl, hs, partM_2 heq.symm, hp', hwf', rseen_recs hRA⟩
 refine aW (aF (dP (dM rfl rfl (lp (po_neq rfl rfl) rfl (aH (bH rfl (fun hc4 => ?_) (fun hc4 => ?_)))))))
 refine dP (dM rfl rfl (lp (bL rfl (by rfl) (bu_81_0 _)) rfl (aJ (dR 2 hs k_81 rfl rfl rfl rfl hzl (aG rfl) rfl (fun w hs => aH (aV ⟨_, fW ⟨_, rfl, aP k_81 (hs.g 2 rfl) rfl⟩, ?_⟩))))))
 have hall : eR l s fuel m [] = (k, [], m') := by
  rw [← heq]
  cases k <;> first | rfl | exact absurd rfl (num_bad hc4) | exact absurd rfl (fun h => hc3 (num_eq2.2 h))
 replace hs := (SlX.close (L := [_, _, _, _]) hX hs).st
 exact ⟨_, _, _, _, m', rfl, ((hs.drop hb10).drop hb7).drop hb6, partM_2 hall, hp', hwf', by rw [if_neg (num_bad hc4)]; exact RSeen.fault _ k⟩
 refine aW ?_
 obtain rfl := num_ok hc4
 obtain ⟨n1, n2, n3, n4⟩ := recordM_nxt hwf h1 h2 hm
 obtain ⟨x, rfl, hx⟩ := ha rfl
 refine aB (lp (aR fo_81_3 rfl) rfl (lp (aO rfl (aQ k_31 (hs.g 1 rfl) rfl)) rfl (lp (aO rfl (aP eJ (hs.g 0 rfl) hal)) rfl (l_app1 (cl := rcs) el_31 (SlX.close (L := [_, _, _, _]) hX hs) (fun _ => rfl) rfl rfl hal haf (by omega) (by omega) (by omega) rfl rfl (fun b68 sv' w hs => ?_)))))
 have hone := hs.oneCell
 obtain ⟨X2, hX2, hs⟩ := (hs.drop hb10).open
 skip
 refine lp (aR fo_81_3 rfl) rfl (aJ (dQ 0 hs k_31 rfl rfl rfl hone rfl rfl rfl (fun w hs => aH ?_)))
 have hs' := SlX.close (L := [_, _, _]) hX2 hs
 exact ⟨(m', f, _, acc ++ [x], _, sv', _), aL rfl (aL rfl (aL rfl (aL rfl (bG _)))), ⟨by simp only [List.length_append]; exact hs', Rows.snoc (hrows.mono fun _ _ h => h.mono hle1) hx hal, hp', hwf', heq, by have := hf2 n1; simp only; omega, fun _ => by have := hf2 n1; simp only; omega, by simp; omega⟩, by simp only; omega⟩
end
end Go.Proofs.YtgpfjlfkaoffeaaGreatDoor
namespace Go.Proofs.YtgpfjlfkaoffeaaGreatDoor
open Go
section
variable {l : List UInt8} {m k : PM}
theorem stepM_part {q : Nat} (h1 : 6 ≤ q) (h2 : q ≤ 20) : stepM l m k (q : Int) = ((partM l m (2 + (q - 6) / 5) ((q - 6) % 5)).1, (partM l m (2 + (q - 6) / 5) ((q - 6) % 5)).2, k) := by
 unfold stepM; rw [if_neg (by omega), if_neg (by omega), if_pos (by omega), Int.toNat_natCast]
theorem MR.zero (l : List UInt8) (mv : Value) : MR l mv {} (macC (.slice none 0 0) 0 0 0 0 {} {}) := ⟨_, _, _, _, _, _, rfl, rfl, fun h => absurd h (by decide)⟩
end
section
variable {V : Vw} {w0 : World} {l : List UInt8} {mv : Value} {bp : Nat} {E : TypeId} {m : PM} {cs : List Value}
theorem c_Begin (hV : V.In w0) : eC Tryz.prog 53 #[] w0 fun v w' => v = .agg (macC (.slice none 0 0) 0 0 0 0 {} {}).toArray ∧ St ⟨w0, V, V⟩ w' [] := by
 have hs := St.start hV
 refine aT [] Tryz.func53 Tryz.ntmps53 Tryz.results53 rfl rfl (dP (aJ (aX hs z_125 rfl (fun b0 w hb0 he0 hs => aH (dP (lp (bL rfl (by rfl) (bu_125_2 _)) rfl (aJ (dR 0 hs k_125 rfl rfl rfl (by simp) (by simp) (aG (by decide +kernel)) rfl (fun w hs => aH (aV ⟨_, fW ⟨_, rfl, aP k_125 (hs.g 0 rfl) rfl⟩, ?_⟩))))))))))
 exact ⟨rfl, hs.drop hb0⟩
end
def qE (b5 b6 : Nat) (mv stv sv : Value) (n j : Nat) : Env :=
 eH (eH (eH (eH (eH (eH (eH emp 16 (.int .i64 j)) 15 (.int .i64 n)) 14 stv) 7 sv) 6 (.pointer (some ⟨b6, 0, none⟩))) 5 (.pointer (some ⟨b5, 0, none⟩))) 0 mv
theorem qE_sub {b5 b6 : Nat} {mv stv sv : Value} {n j : Nat} {ρ : Env} (h0 : ρ 0 = some mv) (h5 : ρ 5 = some (.pointer (some ⟨b5, 0, none⟩))) (h6 : ρ 6 = some (.pointer (some ⟨b6, 0, none⟩))) (h7 : ρ 7 = some sv) (h16 : ρ 14 = some stv)
  (h17 : ρ 15 = some (.int .i64 n)) (h18 : ρ 16 = some (.int .i64 j)) : Sub (qE b5 b6 mv stv sv n j) ρ :=
 aL h0 (aL h5 (aL h6 (aL h7 (aL h16 (aL h17 (aL h18 (bG _)))))))
def qI (b5 b6 : Nat) (mv stv sv : Value) (n j : Nat) (st : Int) (b10 : Nat) : Env := eH (eH (qE b5 b6 mv stv sv n j) 9 (.int .i64 st)) 10 (.pointer (some ⟨b10, 0, none⟩))
theorem qI_sub {b5 b6 : Nat} {mv stv sv : Value} {n j b10 : Nat} {st : Int} {ρ : Env} (h10 : ρ 10 = some (.pointer (some ⟨b10, 0, none⟩))) (h9 : ρ 9 = some (.int .i64 st)) (h0 : ρ 0 = some mv) (h5 : ρ 5 = some (.pointer (some ⟨b5, 0, none⟩))) (h6 : ρ 6 = some (.pointer (some ⟨b6, 0, none⟩))) (h7 : ρ 7 = some sv) (h16 : ρ 14 = some stv)
  (h17 : ρ 15 = some (.int .i64 n)) (h18 : ρ 16 = some (.int .i64 j)) : Sub (qI b5 b6 mv stv sv n j st b10) ρ :=
 aL h10 (aL h9 (qE_sub h0 h5 h6 h7 h16 h17 h18))
section
variable {V : Vw} {w0 : World} {l : List UInt8} {mv : Value}
set_option maxHeartbeats 4000000 in
theorem c_sparse (hV : V.In w0) (hb : RB V mv l) (h2l : l.length ≤ 4294967296) {stv : Value} {steps : List Int} (hst : SlV V 1 stv steps.length (steps.map fun i => .int .i64 i)) (hsn : steps.length ≤ 4294967296) (hall : ∀ st ∈ steps, st = 1 ∨ st = 3 ∨ st = 8 ∨ st = 13 ∨ st = 18) :
  eC Tryz.prog 28 #[mv, stv] w0 fun v w' => ∃ V' : Vw, St ⟨w0, V, V'⟩ w' [] ∧ RSeens V' v (parseM l steps) := by
 obtain ⟨a, cap, rfl, hcap, ha⟩ := hst.form
 have hmv := hb.oneCell
 have hs := St.start hV
 refine aT [_, _] Tryz.func28 Tryz.ntmps28 Tryz.results28 rfl rfl (dP (dN rfl rfl (aH (dP (aZ ok_53 rfl rfl (c_Begin hs.isIn) rfl (fun v11 w HF => ?_))))))
 obtain ⟨rfl, hc⟩ := HF
 replace hs := hs.frame hc
 refine aJ (aX hs z_125 rfl (fun b5 w hb5 he5 hs => aJ (dR 0 hs k_125 rfl rfl rfl (by rfl) (by simp) (aG (by decide +kernel)) rfl (fun w hs => aH (dP (lp (aO rfl (aP k_125 (hs.g 0 rfl) rfl)) rfl (aJ (aX hs z_125 rfl (fun b6 w hb6 he6 hs => aJ (dR 0 hs k_125 rfl rfl rfl rfl rfl (aG rfl) rfl (fun w hs => ?_)))))))))))
 obtain ⟨ks, cs, hk0, hc0, hs⟩ : ∃ ks cs : List Value, MR l mv {} ks ∧ MR l mv {} cs ∧ St ⟨w0, V, V⟩ w [(b6, .cells ks.toArray 125 (0, 0)), (b5, .cells cs.toArray 125 (0, 0))] := ⟨_, _, MR.zero l mv, MR.zero l mv, hs⟩
 refine aH (dP (aJ (fP es_60 hs rfl (fun b15 w hb15 he15 hs => ?_))))
 have hsl : Sl 81 13 ⟨w0, V, V⟩ w [(b6, .cells ks.toArray 125 (0, 0)), (b5, .cells cs.toArray 125 (0, 0))] (.slice (some ⟨b15, 0, none⟩) 0 0) 0 [] := ⟨rfl, .inr ⟨b15, 0, [], rfl, rfl, by omega, by decide, hb15, hs⟩⟩
 refine dN rfl rfl (aH (aF (dP (dM rfl rfl (lp (bC Tryz.underlying62 rfl) rfl (dM rfl rfl (aH (bQ (dC (fun g : Nat × PM × PM × List Value × List Value × List Value × Value × Vw => qE b5 b6 mv (.slice a steps.length cap) g.2.2.2.2.2.2.1 steps.length g.1) (fun g w' => Sl 81 13 ⟨w0, V, g.2.2.2.2.2.2.2⟩ w' [(b6, .cells g.2.2.2.2.1.toArray 125 (0, 0)), (b5, .cells g.2.2.2.1.toArray 125 (0, 0))] g.2.2.2.2.2.2.1 g.1 g.2.2.2.2.2.1 ∧ Rows 13 (RSeen g.2.2.2.2.2.2.2) (runM l {} {} (steps.take g.1)) g.2.2.2.2.2.1 ∧ MR l mv g.2.1 g.2.2.2.1 ∧ MR l mv g.2.2.1 g.2.2.2.2.1 ∧ WF l g.2.1 ∧ WF l g.2.2.1 ∧ endM l {} {} (steps.take g.1) = (g.2.1, g.2.2.1) ∧ g.1 ≤ steps.length) (fun g => steps.length - g.1) (0, {}, {}, cs, ks, [], .slice (some ⟨b15, 0, none⟩) 0 0, V) (qE_sub rfl rfl rfl rfl rfl rfl rfl) ⟨hsl, rfl, hc0, hk0, wf_init l, wf_init l, rfl, Nat.zero_le _⟩ ?_)))))))))
 clear hsl hs hk0 hc0
 rintro ⟨j, m, kept, cs, ks, ys, sv, Vc⟩ w ⟨hsl, hrows, hp, hpk, hwf, hwfk, hend, hj⟩
 simp only at hsl hrows hp hpk hwf hwfk hend hj ⊢
 have hle := hsl.st.view
 refine dP (lp (cY rfl rfl) rfl (aH (aF (bH rfl (fun hc0 => ?_) (fun hc0 => ?_)))))
 obtain ⟨b, p, rfl, hc⟩ := ha (by omega)
 have hjl : j < steps.length := by omega
 obtain ⟨st, hstj⟩ : ∃ st, steps[j]? = some st := ⟨_, List.getElem?_eq_getElem hjl⟩
 have hst5 := hall st (List.mem_of_getElem? hstj)
 replace hb := hb.mono hle
 obtain ⟨X, hX, hs⟩ := hsl.open
 refine aW (aF (bQ (dP (lp (eZ j (p + j * 1) es_62 rfl rfl rfl hjl rfl) rfl (lp (aO rfl (bR (v := .int .i64 st) cH (by rw [Nat.mul_one]; exact Vw.cell_in hs.isIn (Vw.cell_le hle (hc _ _ (by simp [hstj])))))) rfl (dN rfl rfl (aH (dP (lp (bM (vs := []) (ps := []) rfl bz_81) rfl (aJ (aX hs z_81 rfl (fun b10 w hb10 he10 hs => aJ (dR 0 hs k_81 rfl rfl rfl (by simp) (by simp) (aG (by decide +kernel)) rfl (fun w hs => ?_))))))))))))))
 obtain ⟨sz, hsz, hszl, hs⟩ : ∃ sz : List Value, seC 0 (.slice none 0 0) (.slice none 0 0) = sz ∧ sz.length = 13 ∧ St ⟨w0, V, Vc⟩ w ([(b10, .cells sz.toArray 81 (0, 0)), (b6, .cells ks.toArray 125 (0, 0)), (b5, .cells cs.toArray 125 (0, 0))] ++ X) := ⟨_, rfl, rfl, hs⟩
 refine aH (dG (fun ρ w => ∃ (b10 : Nat) (V' : Vw) (cs' ks' sc : List Value) (s : PSeen) (m' kept' : PM), w0.heap.size ≤ b10 ∧ Sub (qI b5 b6 mv (.slice (some ⟨b, p, none⟩) steps.length cap) sv steps.length j st b10) ρ ∧ Vc.le V' ∧ St ⟨w0, V, V'⟩ w ([(b10, .cells sc.toArray 81 (0, 0)), (b6, .cells ks'.toArray 125 (0, 0)), (b5, .cells cs'.toArray 125 (0, 0))] ++ X) ∧ stepM l m kept st = (s, m', kept') ∧ MR l mv m' cs' ∧ MR l mv kept' ks' ∧ WF l m' ∧ WF l kept' ∧ RSeen V' s sc) ?_ ?_)
 refine bQ (dP (dM rfl rfl (lp (bI rfl rfl) rfl (dN rfl rfl (aH (bH rfl (fun hc1 => ?_) (fun hc1 => ?_)))))))
 subst hc1
 refine aB (dM rfl rfl (aZ ok_54 rfl rfl (c_mstart hs.isIn hb (hs.g 2 rfl) (hs.off (k := 2) rfl) hp h2l) rfl (fun v26 w HF => ?_)))
 obtain ⟨cs', sc, s, m', rfl, hc2, hm, hp, hwf', hRS⟩ := HF
 replace hs := hs.frame1 (k := 2) rfl rfl hc2
 refine aJ (dR 0 hs k_81 rfl rfl rfl hRS.flat.2 hszl hRS.flat.1 rfl (fun w hs => aH ?_))
 exact ⟨b10, Vc, cs', ks, sc, _, m', kept, hb10, qI_sub rfl rfl rfl rfl rfl rfl rfl rfl rfl, Vc.le_refl, hs, by rw [stepM_1, hm], hp, hpk, hwf', hwfk, hRS⟩
 refine dG (fun ρ w => Sub (eH (qI b5 b6 mv (.slice (some ⟨b, p, none⟩) steps.length cap) sv steps.length j st b10) 27 (.bool (decide (2 ≤ st ∧ st ≤ 5)))) ρ ∧ St ⟨w0, V, Vc⟩ w ([(b10, .cells sz.toArray 81 (0, 0)), (b6, .cells ks.toArray 125 (0, 0)), (b5, .cells cs.toArray 125 (0, 0))] ++ X)) ?_ ?_
 cases hg : decide (2 ≤ st)
 refine aB (dM rfl rfl (lp (po_geq rfl rfl) rfl (dM rfl rfl (aU rfl rfl hg rfl (aU rfl rfl hg rfl (lp (bW rfl (by assumption) rfl) rfl (dN rfl rfl (aH ?_))))))))
 have hval : (false : Bool) = decide (2 ≤ st ∧ st ≤ 5) := by symm; apply decide_eq_false; have := of_decide_eq_false hg; omega
 exact ⟨aL (congrArg (fun t => some (Value.bool t)) hval) (qI_sub rfl rfl rfl rfl rfl rfl rfl rfl rfl), hs⟩
 refine aB (dM rfl rfl (lp (po_geq rfl rfl) rfl (dM rfl rfl (lg rfl rfl hg (aC rfl) rfl (lg rfl rfl hg (po_leq rfl rfl) rfl (lp (bO rfl (by assumption) rfl) rfl (dN rfl rfl (aH ?_))))))))
 have hval : decide (st ≤ 5) = decide (2 ≤ st ∧ st ≤ 5) := by have := of_decide_eq_true hg; apply decide_eq_decide.2; omega
 exact ⟨aL (congrArg (fun t => some (Value.bool t)) hval) (qI_sub rfl rfl rfl rfl rfl rfl rfl rfl rfl), hs⟩
 clear hs
 rintro ρ w ⟨hsub, hs⟩
 refine EW.weaken hsub (bH rfl (fun hc2 => ?_) (fun hc2 => ?_))
 obtain rfl : st = 3 := by omega
 refine aB (dM rfl rfl (aZ ok_55 rfl rfl (c_mquestion3 hs.isIn hb (hs.g 2 rfl) (hs.off (k := 2) rfl) hp hwf h2l) rfl (fun v35 w HF => ?_)))
 obtain ⟨V1, cs', sc, s, m', rfl, hcq, hm, hp, hwf', hRS⟩ := HF
 have hle1 := hcq.view
 replace hs := hs.frame1 (k := 2) rfl rfl hcq
 refine aJ (dR 0 hs k_81 rfl rfl rfl hRS.flat.2 hszl hRS.flat.1 rfl (fun w hs => aH ?_))
 exact ⟨b10, V1, cs', ks, sc, _, m', kept, hb10, qI_sub rfl rfl rfl rfl rfl rfl rfl rfl rfl, hle1, hs, by rw [stepM_3, hm], hp, hpk, hwf', hwfk, hRS⟩
 refine dG (fun ρ w => Sub (eH (qI b5 b6 mv (.slice (some ⟨b, p, none⟩) steps.length cap) sv steps.length j st b10) 36 (.bool (decide (6 ≤ st ∧ st ≤ 20)))) ρ ∧ St ⟨w0, V, Vc⟩ w ([(b10, .cells sz.toArray 81 (0, 0)), (b6, .cells ks.toArray 125 (0, 0)), (b5, .cells cs.toArray 125 (0, 0))] ++ X)) ?_ ?_
 cases hg : decide (6 ≤ st)
 refine aB (dM rfl rfl (lp (po_geq rfl rfl) rfl (dM rfl rfl (aU rfl rfl hg rfl (aU rfl rfl hg rfl (lp (bW rfl (by assumption) rfl) rfl (dN rfl rfl (aH ?_))))))))
 have hval : (false : Bool) = decide (6 ≤ st ∧ st ≤ 20) := by symm; apply decide_eq_false; have := of_decide_eq_false hg; omega
 exact ⟨aL (congrArg (fun t => some (Value.bool t)) hval) (qI_sub rfl rfl rfl rfl rfl rfl rfl rfl rfl), hs⟩
 refine aB (dM rfl rfl (lp (po_geq rfl rfl) rfl (dM rfl rfl (lg rfl rfl hg (aC rfl) rfl (lg rfl rfl hg (po_leq rfl rfl) rfl (lp (bO rfl (by assumption) rfl) rfl (dN rfl rfl (aH ?_))))))))
 have hval : decide (st ≤ 20) = decide (6 ≤ st ∧ st ≤ 20) := by have := of_decide_eq_true hg; apply decide_eq_decide.2; omega
 exact ⟨aL (congrArg (fun t => some (Value.bool t)) hval) (qI_sub rfl rfl rfl rfl rfl rfl rfl rfl rfl), hs⟩
 clear hs
 rintro ρ w ⟨hsub, hs⟩
 refine EW.weaken hsub (bH rfl (fun hc3 => ?_) (fun hc3 => ?_))
 obtain ⟨q, rfl⟩ : ∃ q : Nat, st = q := ⟨st.toNat, by omega⟩
 refine aB (dM rfl rfl (lp (po_sub rfl rfl (fV (c := q - 6) (by omega) (by omega))) rfl (lp (po_quo rfl rfl (by decide) (fV (c := (q - 6) / 5) (by rw [show (5 : Int) = ((5 : Nat) : Int) from rfl, ← Int.ofNat_tdiv]) (by omega))) rfl (lp (bN rfl rfl (fV (c := 1 + (q - 6) / 5) (by omega) (by omega))) rfl (dM rfl rfl (lp (po_sub rfl rfl (fV (c := q - 6) (by omega) (by omega))) rfl (lp (po_rem (c := 2) rfl rfl (by decide) (by rw [show (5 : Int) = ((5 : Nat) : Int) from rfl, ← Int.ofNat_tmod]; omega)) rfl (aZ ok_56 rfl rfl (c_mpart2 hs.isIn hb (hs.g 2 rfl) (hs.off (k := 2) rfl) hp hwf h2l (2 + (q - 6) / 5) (by omega) (by omega) (by omega)) rfl (fun v50 w HF => ?_)))))))))
 obtain ⟨V1, cs', sc, s, m', rfl, hc2', hm, hp, hwf', hRS⟩ := HF
 have hc2 := hc2'
 have hle1 := hc2.view
 replace hs := hs.frame1 (k := 2) rfl rfl hc2
 refine aJ (dR 0 hs k_81 rfl rfl rfl hRS.flat.2 hszl hRS.flat.1 rfl (fun w hs => aH ?_))
 exact ⟨b10, V1, cs', ks, sc, _, m', kept, hb10, qI_sub rfl rfl rfl rfl rfl rfl rfl rfl rfl, hle1, hs, by rw [stepM_part (by omega) (by omega), show (q - 6) % 5 = 2 by omega, hm], hp, hpk, hwf', hwfk, hRS⟩
 refine dG (fun ρ w => Sub (eH (qI b5 b6 mv (.slice (some ⟨b, p, none⟩) steps.length cap) sv steps.length j st b10) 51 (.bool (decide (20 < st ∧ st ≤ 33)))) ρ ∧ St ⟨w0, V, Vc⟩ w ([(b10, .cells sz.toArray 81 (0, 0)), (b6, .cells ks.toArray 125 (0, 0)), (b5, .cells cs.toArray 125 (0, 0))] ++ X)) ?_ ?_
 cases hg : decide (20 < st)
 refine aB (dM rfl rfl (lp (cQ rfl rfl) rfl (dM rfl rfl (aU rfl rfl hg rfl (aU rfl rfl hg rfl (lp (bW rfl (by assumption) rfl) rfl (dN rfl rfl (aH ?_))))))))
 have hval : (false : Bool) = decide (20 < st ∧ st ≤ 33) := by symm; apply decide_eq_false; have := of_decide_eq_false hg; omega
 exact ⟨aL (congrArg (fun t => some (Value.bool t)) hval) (qI_sub rfl rfl rfl rfl rfl rfl rfl rfl rfl), hs⟩
 refine aB (dM rfl rfl (lp (cQ rfl rfl) rfl (dM rfl rfl (lg rfl rfl hg (aC rfl) rfl (lg rfl rfl hg (po_leq rfl rfl) rfl (lp (bO rfl (by assumption) rfl) rfl (dN rfl rfl (aH ?_))))))))
 have hval : decide (st ≤ 33) = decide (20 < st ∧ st ≤ 33) := by have := of_decide_eq_true hg; apply decide_eq_decide.2; omega
 exact ⟨aL (congrArg (fun t => some (Value.bool t)) hval) (qI_sub rfl rfl rfl rfl rfl rfl rfl rfl rfl), hs⟩
 clear hs
 rintro ρ w ⟨hsub, hs⟩
 refine EW.weaken hsub (bH rfl (fun hc4 => ?_) (fun hc4 => ?_))
 exact absurd hc4.1 (by omega)
 refine dP (dM rfl rfl (lp (bI rfl rfl) rfl (dN rfl rfl (aH (bH rfl (fun hc5 => ?_) (fun hc5 => ?_))))))
 exact absurd hc5 (by omega)
 refine dP (dM rfl rfl (lp (bI rfl rfl) rfl (dN rfl rfl (aH (bH rfl (fun hc6 => ?_) (fun hc6 => ?_))))))
 exact absurd hc6 (by omega)
 exact absurd hst5 (by omega)
 clear hs
 rintro ρ w ⟨b10, V', cs', ks', sc, s, m', kept', hb10, hsub, hle', hs, hstep, hp', hpk', hwf', hwfk', hRS⟩
 refine EW.weaken hsub (aB (dM rfl rfl (lp (aO rfl (aP k_81 (hs.g 0 rfl) hRS.flat.2)) rfl (l_app1 (cl := sc) el_60 (SlX.close (L := [_, _, _]) hX hs) (fun _ => rfl) rfl rfl hRS.flat.2 hRS.flat.1 (by omega) (by omega) (by omega) rfl rfl (fun b16 sv' w hs => ?_)))))
 replace hs := hs.drop hb10
 skip
 refine dN rfl rfl (aH (aB (lp (bN rfl rfl (fV (c := j + 1) (by omega) (by omega))) rfl (dM rfl rfl (aH ?_)))))
 obtain ⟨hrun, hend'⟩ := run_snoc hstj hend hstep
 exact ⟨(j + 1, m', kept', cs', ks', _, sv', V'), qE_sub rfl rfl rfl rfl rfl rfl rfl, ⟨hs, by
  show Rows 13 (RSeen V') (runM l {} {} (steps.take (j + 1))) _
  rw [hrun]
  exact Rows.snoc (hrows.mono fun _ _ h => h.mono hle') hRS hRS.flat.2, hp', hpk', hwf', hwfk', hend', by simp only; omega⟩, by simp only; omega⟩
 refine eT (aF ?_)
 have hjn : j = steps.length := by omega
 subst hjn
 rw [List.take_length] at hrows
 obtain ⟨V', hle', hsv, hs⟩ := hsl.give
 refine aB (dM rfl rfl (dN rfl rfl (aH (aV ⟨_, fW rfl, ?_⟩))))
 exact ⟨V', (hs.drop hb6).drop hb5, _, by unfold parseM; rw [runM_len]; exact hsv, hrows.mono fun _ _ h => h.mono hle'⟩
end
end Go.Proofs.YtgpfjlfkaoffeaaGreatDoor
namespace Go.Proofs.YtgpfjlfkaoffeaaGreatDoor
open Go
theorem getElem?_headL {id bits i : Nat} {u va vr : Value} (h : (headC id bits)[i]? = some u) : (headC id bits ++ [va, vr])[i]? = some u := by
 have hlt : i < (headC id bits).length := by
  rcases Nat.lt_or_ge i (headC id bits).length with h' | h'
  exact h'
  rw [List.getElem?_eq_none h'] at h; cases h
 rw [List.getElem?_append_left hlt]; exact h
section
variable {V : Vw} {w0 : World} {a b : Value}
theorem c_SameBytes (hV : V.In w0) {l : List UInt8} (ha : RB V a l) (hb : RB V b l) : eC Tryz.prog 127 #[a, b] w0 fun v w' => v = .bool true ∧ St ⟨w0, V, V⟩ w' [] := by
 have hs := St.start hV
 refine aT [_, _] Tryz.func127 Tryz.ntmps127 Tryz.results127 rfl rfl (dP (dN rfl rfl (aH (dP (dM rfl rfl (lp (po_bytesStrR ha hs.isIn Tryz.underlying23 Tryz.underlying5 Tryz.underlying9 rfl) rfl (dM rfl rfl (lp (po_bytesStrR hb hs.isIn Tryz.underlying23 Tryz.underlying5 Tryz.underlying9 rfl) rfl (lp (po_eqt rfl rfl) rfl (dN rfl rfl (aH (aV ⟨_, fW rfl, ?_⟩))))))))))))
 exact ⟨rfl, hs⟩
set_option maxHeartbeats 2000000 in
theorem c_sameTexts (hV : V.In w0) {ts : List (List UInt8)} (ha : fF V a ts) (hb : fF V b ts) (hn : ts.length ≤ 4294967296) : eC Tryz.prog 128 #[a, b] w0 fun v w' => v = .bool true ∧ St ⟨w0, V, V⟩ w' [] := by
 obtain ⟨a1, c1, rfl, hk1, h1⟩ := SlV.form ha
 obtain ⟨a2, c2, rfl, hk2, h2⟩ := SlV.form hb
 have hs := St.start hV
 refine aT [_, _] Tryz.func128 Tryz.ntmps128 Tryz.results128 rfl rfl (dP (dN rfl rfl (aH (aF (dP (dM rfl rfl (lp (bC Tryz.underlying28 rfl) rfl (dM rfl rfl (lp (bC Tryz.underlying28 rfl) rfl (lp (po_neq rfl rfl) rfl (aH (aY rfl ((by simp)) (aW ?_)))))))))))))
 refine aF (dP (dM rfl rfl (lp (bC Tryz.underlying28 rfl) rfl (dM rfl rfl (aH (bQ (dC (fun j : Nat => eH (eH (eH (eH (eH emp 13 (.int .i64 j)) 12 (.int .i64 ts.length)) 11 (.slice a1 ts.length c1)) 1 (.slice a2 ts.length c2)) 0 (.slice a1 ts.length c1)) (fun j w' => St ⟨w0, V, V⟩ w' [] ∧ j ≤ ts.length) (fun j => ts.length - j) 0 (aL rfl (aL rfl (aL rfl (aL rfl (aL rfl (bG _)))))) ⟨hs, Nat.zero_le _⟩ ?_)))))))
 clear hs
 rintro j w ⟨hs, hj⟩
 refine dP (lp (cY rfl rfl) rfl (aH (aF (bH rfl (fun hc1 => ?_) (fun hc1 => ?_)))))
 have hjl : j < ts.length := by omega
 obtain ⟨b1, p1, rfl, hc1⟩ := h1 (by omega)
 obtain ⟨b2, p2, rfl, hc2⟩ := h2 (by omega)
 obtain ⟨x, hx⟩ : ∃ x, ts[j]? = some x := ⟨_, List.getElem?_eq_getElem hjl⟩
 refine aW (aF (bQ (dP (dM rfl rfl (dN rfl rfl (aH (aF (bV hs [3, 7] mixed (fun w hs => dI 0 rfl (fun w => aC rfl) rfl rfl (dI 1 rfl (fun w => aC rfl) rfl rfl (dI 2 rfl (fun w => (eZ j (p1 + j * 1) es_28 rfl rfl rfl hjl rfl)) rfl rfl (dJ 3 rfl hs rfl (fun w hs => (aO rfl (bR (v := fR x) k_9 (by rw [Nat.mul_one]; exact Vw.cell_in hs.isIn (hc1 _ _ (by simp [hx])))))) rfl (dI 4 rfl (fun w => aC rfl) rfl rfl ?_)))))))))))))
 refine dI 5 rfl (fun w => aC rfl) rfl rfl (dI 6 rfl (fun w => (eZ j (p2 + j * 1) es_28 rfl rfl rfl hjl rfl)) rfl rfl (dJ 7 rfl hs rfl (fun w hs => (aO rfl (bR (v := fR x) k_9 (by rw [Nat.mul_one]; exact Vw.cell_in hs.isIn (hc2 _ _ (by simp [hx])))))) rfl (dI 8 rfl (fun w => po_net rfl rfl) rfl rfl (bS (by decide +kernel) (aY rfl rfl (aW (aB (lp (bN rfl rfl (fV (c := j + 1) (by omega) (by omega))) rfl (dM rfl rfl (aH ?_))))))))))
 exact ⟨j + 1, aL rfl (aL rfl (aL rfl (aL rfl (aL rfl (bG _))))), ⟨hs, by omega⟩, by omega⟩
 refine eT (dP (dN rfl rfl (aH (aV ⟨_, fW rfl, ?_⟩))))
 exact ⟨rfl, hs⟩
set_option maxHeartbeats 2000000 in
theorem c_samePairs (hV : V.In w0) {ps : List fU} (ha : eV V a ps) (hb : eV V b ps) (hn : ps.length ≤ 4294967296) : eC Tryz.prog 129 #[a, b] w0 fun v w' => v = .bool true ∧ St ⟨w0, V, V⟩ w' [] := by
 obtain ⟨xs1, hS1, hR1⟩ := ha
 obtain ⟨xs2, hS2, hR2⟩ := hb
 obtain ⟨a1, c1, rfl, hk1, h1⟩ := hS1.form
 obtain ⟨a2, c2, rfl, hk2, h2⟩ := hS2.form
 have hs := St.start hV
 refine aT [_, _] Tryz.func129 Tryz.ntmps129 Tryz.results129 rfl rfl (dP (dN rfl rfl (aH (aF (dP (dM rfl rfl (lp (bC Tryz.underlying26 rfl) rfl (dM rfl rfl (lp (bC Tryz.underlying26 rfl) rfl (lp (po_neq rfl rfl) rfl (aH (aY rfl ((by simp)) (aW ?_)))))))))))))
 refine aF (dP (dM rfl rfl (lp (bC Tryz.underlying26 rfl) rfl (dM rfl rfl (aH (bQ (dC (fun j : Nat => eH (eH (eH (eH (eH emp 13 (.int .i64 j)) 12 (.int .i64 ps.length)) 11 (.slice a1 ps.length c1)) 1 (.slice a2 ps.length c2)) 0 (.slice a1 ps.length c1)) (fun j w' => St ⟨w0, V, V⟩ w' [] ∧ j ≤ ps.length) (fun j => ps.length - j) 0 (aL rfl (aL rfl (aL rfl (aL rfl (aL rfl (bG _)))))) ⟨hs, Nat.zero_le _⟩ ?_)))))))
 clear hs
 rintro j w ⟨hs, hj⟩
 refine dP (lp (cY rfl rfl) rfl (aH (aF (bH rfl (fun hc1 => ?_) (fun hc1 => ?_)))))
 have hjl : j < ps.length := by omega
 obtain ⟨b1, p1, rfl, hc1⟩ := h1 (by omega)
 obtain ⟨b2, p2, rfl, hc2⟩ := h2 (by omega)
 obtain ⟨x, hx⟩ : ∃ x, ps[j]? = some x := ⟨_, List.getElem?_eq_getElem hjl⟩
 obtain ⟨e1, ⟨d1, rfl, hd1⟩, hl1, ht1⟩ := hR1.at hx
 obtain ⟨e2, ⟨d2, rfl, hd2⟩, hl2, ht2⟩ := hR2.at hx
 refine aW (aF (bQ (dP (dM rfl rfl (dN rfl rfl (aH (aF (bV hs [4, 9, 16, 21] mixed (fun w hs => dI 0 rfl (fun w => aC rfl) rfl rfl (dI 1 rfl (fun w => aC rfl) rfl rfl (dI 2 rfl (fun w => (eZ j (p1 + j * 2) es_26 rfl rfl rfl hjl rfl)) rfl rfl (dI 3 rfl (fun w => bD fo_25_0 rfl) rfl rfl (dJ 4 rfl hs rfl (fun w hs => (aO rfl (bR (v := .int .u16 x.key) eS (Vw.cell_in hs.isIn (hc1 _ _ (fN ht1 (i := 0) rfl)))))) rfl ?_)))))))))))))
 refine dI 5 rfl (fun w => aC rfl) rfl rfl (dI 6 rfl (fun w => aC rfl) rfl rfl (dI 7 rfl (fun w => (eZ j (p2 + j * 2) es_26 rfl rfl rfl hjl rfl)) rfl rfl (dI 8 rfl (fun w => bD fo_25_0 rfl) rfl rfl (dJ 9 rfl hs rfl (fun w hs => (aO rfl (bR (v := .int .u16 x.key) eS (Vw.cell_in hs.isIn (hc2 _ _ (fN ht2 (i := 0) rfl)))))) rfl (dI 10 rfl (fun w => po_nei rfl rfl) rfl rfl (dI 11 rfl (fun w => aC rfl) rfl rfl (dK 12 rfl rfl rfl rfl (fun h => absurd h (by decide +kernel)) (fun w _ => (aC rfl)) rfl (dK 13 rfl rfl rfl rfl (fun h => absurd h (by decide +kernel)) (fun w _ => (aC rfl)) rfl (dK 14 rfl rfl rfl rfl (fun h => absurd h (by decide +kernel)) (fun w _ => (eZ j (p1 + j * 2) es_26 rfl rfl rfl hjl rfl)) rfl (dK 15 rfl rfl rfl rfl (fun h => absurd h (by decide +kernel)) (fun w _ => (bD fo_25_1 rfl)) rfl (dK 16 rfl rfl rfl rfl (fun _ => hs) (fun w h0 => have hs := h0 (by decide +kernel); (aO rfl (bR (v := d1) k_23 (Vw.cell_in hs.isIn (hc1 _ _ (fN ht1 (i := 1) rfl)))))) rfl (dK 17 rfl rfl rfl rfl (fun h => absurd h (by decide +kernel)) (fun w _ => (aC rfl)) rfl (dK 18 rfl rfl rfl rfl (fun h => absurd h (by decide +kernel)) (fun w _ => (aC rfl)) rfl ?_)))))))))))))
 refine dK 19 rfl rfl rfl rfl (fun h => absurd h (by decide +kernel)) (fun w _ => (eZ j (p2 + j * 2) es_26 rfl rfl rfl hjl rfl)) rfl (dK 20 rfl rfl rfl rfl (fun h => absurd h (by decide +kernel)) (fun w _ => (bD fo_25_1 rfl)) rfl (dK 21 rfl rfl rfl rfl (fun _ => hs) (fun w h0 => have hs := h0 (by decide +kernel); (aO rfl (bR (v := d2) k_23 (Vw.cell_in hs.isIn (hc2 _ _ (fN ht2 (i := 1) rfl)))))) rfl (a_oneG 22 (by decide +kernel) rfl rfl rfl rfl (cF (cD rfl rfl ok_127 (c_SameBytes hs.isIn hd1 hd2)) rfl (fun v38 w HF => ?_)))))
 obtain ⟨rfl, hc⟩ := HF
 replace hs := hs.frame hc
 refine ⟨fun _ => hs, dK 23 rfl rfl rfl rfl (fun h => absurd h (by decide +kernel)) (fun w _ => (cS rfl)) rfl (dI 24 rfl (fun w => bW rfl rfl rfl) rfl rfl (bS (by decide +kernel) (aY rfl rfl (aW (aB (lp (bN rfl rfl (fV (c := j + 1) (by omega) (by omega))) rfl (dM rfl rfl (aH ?_))))))))⟩
 exact ⟨j + 1, aL rfl (aL rfl (aL rfl (aL rfl (aL rfl (bG _))))), ⟨hs, by omega⟩, by omega⟩
 refine eT (dP (dN rfl rfl (aH (aV ⟨_, fW rfl, ?_⟩))))
 exact ⟨rfl, hs⟩
set_option maxHeartbeats 2000000 in
theorem c_sameAsks (hV : V.In w0) {al : List PAsk} (ha : RAsks V a al) (hb : RAsks V b al) (hn : al.length ≤ 4294967296) : eC Tryz.prog 29 #[a, b] w0 fun v w' => v = .bool true ∧ St ⟨w0, V, V⟩ w' [] := by
 obtain ⟨xs1, hS1, hR1⟩ := ha
 obtain ⟨xs2, hS2, hR2⟩ := hb
 obtain ⟨a1, c1, rfl, hk1, h1⟩ := hS1.form
 obtain ⟨a2, c2, rfl, hk2, h2⟩ := hS2.form
 have hs := St.start hV
 refine aT [_, _] Tryz.func29 Tryz.ntmps29 Tryz.results29 rfl rfl (dP (dN rfl rfl (aH (aF (dP (dM rfl rfl (lp (bC Tryz.underlying34 rfl) rfl (dM rfl rfl (lp (bC Tryz.underlying34 rfl) rfl (lp (po_neq rfl rfl) rfl (aH (aY rfl ((by simp)) (aW ?_)))))))))))))
 refine aF (dP (dM rfl rfl (lp (bC Tryz.underlying34 rfl) rfl (dM rfl rfl (aH (bQ (dC (fun j : Nat => eH (eH (eH (eH (eH emp 13 (.int .i64 j)) 12 (.int .i64 al.length)) 11 (.slice a1 al.length c1)) 1 (.slice a2 al.length c2)) 0 (.slice a1 al.length c1)) (fun j w' => St ⟨w0, V, V⟩ w' [] ∧ j ≤ al.length) (fun j => al.length - j) 0 (aL rfl (aL rfl (aL rfl (aL rfl (aL rfl (bG _)))))) ⟨hs, Nat.zero_le _⟩ ?_)))))))
 clear hs
 rintro j w ⟨hs, hj⟩
 refine dP (lp (cY rfl rfl) rfl (aH (aF (bH rfl (fun hc1 => ?_) (fun hc1 => ?_)))))
 have hjl : j < al.length := by omega
 obtain ⟨b1, p1, rfl, hc1⟩ := h1 (by omega)
 obtain ⟨b2, p2, rfl, hc2⟩ := h2 (by omega)
 obtain ⟨x, hx⟩ : ∃ x, al[j]? = some x := ⟨_, List.getElem?_eq_getElem hjl⟩
 obtain ⟨e1, rfl, hl1, ht1⟩ := hR1.at hx
 obtain ⟨e2, rfl, hl2, ht2⟩ := hR2.at hx
 refine aW (aF (bQ (dP (dM rfl rfl (dN rfl rfl (aH (aF (bV hs [3, 7] mixed (fun w hs => dI 0 rfl (fun w => aC rfl) rfl rfl (dI 1 rfl (fun w => aC rfl) rfl rfl (dI 2 rfl (fun w => (eZ j (p1 + j * 3) es_34 rfl rfl rfl hjl rfl)) rfl rfl (dJ 3 rfl hs rfl (fun w hs => (aO rfl (ld_cells (l := askC x) k_77 rfl (fun i u hu => by rw [Nat.add_assoc]; exact Vw.cell_in hs.isIn (hc1 _ _ (fN ht1 hu)))))) rfl (dI 4 rfl (fun w => aC rfl) rfl rfl ?_)))))))))))))
 refine dI 5 rfl (fun w => aC rfl) rfl rfl (dI 6 rfl (fun w => (eZ j (p2 + j * 3) es_34 rfl rfl rfl hjl rfl)) rfl rfl (dJ 7 rfl hs rfl (fun w hs => (aO rfl (ld_cells (l := askC x) k_77 rfl (fun i u hu => by rw [Nat.add_assoc]; exact Vw.cell_in hs.isIn (hc2 _ _ (fN ht2 hu)))))) rfl (dI 8 rfl (fun w => po_nes_self ps_77 us_77 rfl rfl rfl) rfl rfl (bS (by decide +kernel) (aY rfl rfl (aW (aB (lp (bN rfl rfl (fV (c := j + 1) (by omega) (by omega))) rfl (dM rfl rfl (aH ?_))))))))))
 exact ⟨j + 1, aL rfl (aL rfl (aL rfl (aL rfl (aL rfl (bG _))))), ⟨hs, by omega⟩, by omega⟩
 refine eT (dP (dN rfl rfl (aH (aV ⟨_, fW rfl, ?_⟩))))
 exact ⟨rfl, hs⟩
def FewR (r : fY) : Prop := r.texts.length ≤ 4294967296 ∧ r.pairs.length ≤ 4294967296
set_option maxHeartbeats 4000000 in
theorem c_sameRecord (hV : V.In w0) {r : fY} {ra rb : List Value} (ha : RRec V r ra) (hb : RRec V r rb) (hn : FewR r) : eC Tryz.prog 58 #[.agg ra.toArray, .agg rb.toArray] w0 fun v w' => v = .bool true ∧ St ⟨w0, V, V⟩ w' [] := by
 obtain ⟨vd, vt, vp, rfl, f1, f2, f3⟩ := ha
 obtain ⟨vd', vt', vp', rfl, g1, g2, g3⟩ := hb
 have hs := St.start hV
 have hg : true = true := rfl
 refine aT [_, _] Tryz.func58 Tryz.ntmps58 Tryz.results58 rfl rfl (dP (aJ (cR hs rfl rfl rfl (fun b2 w hb2 hbe2 hs => aJ (cR hs rfl rfl rfl (fun b3 w hb3 hbe3 hs => dN rfl rfl (aH (aF ?_))))))))
 skip
 refine aB (lp (aR fo_30_0 rfl) rfl (lp (aO rfl (aQ k_9 (hs.g 1 rfl) rfl)) rfl (lp (aR fo_30_0 rfl) rfl (lp (aO rfl (aQ k_9 (hs.g 0 rfl) rfl)) rfl (lp (po_eqt rfl rfl) rfl (dM rfl rfl (lg rfl rfl hg (aR fo_30_1 rfl) rfl (lg rfl rfl hg (aO rfl (aQ eS (hs.g 1 rfl) rfl)) rfl (lg rfl rfl hg (aR fo_30_1 rfl) rfl (lg rfl rfl hg (aO rfl (aQ eS (hs.g 0 rfl) rfl)) rfl (lg rfl rfl hg (po_eqi rfl rfl) rfl (lp (bO rfl rfl rfl) rfl (dM rfl rfl ?_)))))))))))))
 refine lg rfl rfl hg (aR fo_30_2 rfl) rfl (lg rfl rfl hg (aO rfl (aQ eS (hs.g 1 rfl) rfl)) rfl (lg rfl rfl hg (aR fo_30_2 rfl) rfl (lg rfl rfl hg (aO rfl (aQ eS (hs.g 0 rfl) rfl)) rfl (lg rfl rfl hg (po_eqi rfl rfl) rfl (lp (bO rfl rfl rfl) rfl (dM rfl rfl (lg rfl rfl hg (aR fo_30_3 rfl) rfl (lg rfl rfl hg (aO rfl (aQ cB (hs.g 1 rfl) rfl)) rfl (lg rfl rfl hg (aR fo_30_3 rfl) rfl (lg rfl rfl hg (aO rfl (aQ cB (hs.g 0 rfl) rfl)) rfl (lg rfl rfl hg (po_eqi rfl rfl) rfl (lp (bO rfl rfl rfl) rfl (dM rfl rfl ?_)))))))))))))
 refine lg rfl rfl hg (aR fo_30_4 rfl) rfl (lg rfl rfl hg (aO rfl (aQ eS (hs.g 1 rfl) rfl)) rfl (lg rfl rfl hg (aR fo_30_4 rfl) rfl (lg rfl rfl hg (aO rfl (aQ eS (hs.g 0 rfl) rfl)) rfl (lg rfl rfl hg (po_eqi rfl rfl) rfl (lp (bO rfl rfl rfl) rfl (dM rfl rfl (lg rfl rfl hg (aR fo_30_5 rfl) rfl (lg rfl rfl hg (aO rfl (aQ cH (hs.g 1 rfl) rfl)) rfl (lg rfl rfl hg (aR fo_30_5 rfl) rfl (lg rfl rfl hg (aO rfl (aQ cH (hs.g 0 rfl) rfl)) rfl (lg rfl rfl hg (po_eqi rfl rfl) rfl (lp (bO rfl rfl rfl) rfl (dN rfl rfl ?_)))))))))))))
 refine aH (aF ?_)
 skip
 refine aB (lp (aR fo_30_9 rfl) rfl (lp (aO rfl (aQ cB (hs.g 1 rfl) rfl)) rfl (lp (aR fo_30_9 rfl) rfl (lp (aO rfl (aQ cB (hs.g 0 rfl) rfl)) rfl (lp (po_eqi rfl rfl) rfl (dM rfl rfl (lg rfl rfl hg (aR fo_30_10 rfl) rfl (lg rfl rfl hg (aO rfl (aQ cB (hs.g 1 rfl) rfl)) rfl (lg rfl rfl hg (aR fo_30_10 rfl) rfl (lg rfl rfl hg (aO rfl (aQ cB (hs.g 0 rfl) rfl)) rfl (lg rfl rfl hg (po_eqi rfl rfl) rfl (lp (bO rfl rfl rfl) rfl (dM rfl rfl ?_)))))))))))))
 refine lg rfl rfl hg (aR fo_30_11 rfl) rfl (lg rfl rfl hg (aO rfl (aQ cB (hs.g 1 rfl) rfl)) rfl (lg rfl rfl hg (aR fo_30_11 rfl) rfl (lg rfl rfl hg (aO rfl (aQ cB (hs.g 0 rfl) rfl)) rfl (lg rfl rfl hg (po_eqi rfl rfl) rfl (lp (bO rfl rfl rfl) rfl (dM rfl rfl (lg rfl rfl hg (aR fo_30_12 rfl) rfl (lg rfl rfl hg (aO rfl (aQ cB (hs.g 1 rfl) rfl)) rfl (lg rfl rfl hg (aR fo_30_12 rfl) rfl (lg rfl rfl hg (aO rfl (aQ cB (hs.g 0 rfl) rfl)) rfl (lg rfl rfl hg (po_eqi rfl rfl) rfl (lp (bO rfl rfl rfl) rfl (dM rfl rfl ?_)))))))))))))
 refine lg rfl rfl hg (aR fo_30_13 rfl) rfl (lg rfl rfl hg (aO rfl (aQ cB (hs.g 1 rfl) rfl)) rfl (lg rfl rfl hg (aR fo_30_13 rfl) rfl (lg rfl rfl hg (aO rfl (aQ cB (hs.g 0 rfl) rfl)) rfl (lg rfl rfl hg (po_eqi rfl rfl) rfl (lp (bO rfl rfl rfl) rfl (dN rfl rfl (aH (aF ?_))))))))
 skip
 refine aB (dM rfl rfl (dM rfl rfl (lg rfl rfl hg (aC rfl) rfl (lp (bO rfl rfl rfl) rfl (dM rfl rfl (lg rfl rfl hg (aR fo_30_7 rfl) rfl (lg rfl rfl hg (aO rfl (aQ k_9 (hs.g 1 rfl) rfl)) rfl (lg rfl rfl hg (aR fo_30_7 rfl) rfl (lg rfl rfl hg (aO rfl (aQ k_9 (hs.g 0 rfl) rfl)) rfl (lg rfl rfl hg (po_eqt rfl rfl) rfl (lp (bO rfl rfl rfl) rfl (dM rfl rfl (lg rfl rfl hg (aR fo_30_8 rfl) rfl ?_)))))))))))))
 refine lg rfl rfl hg (aO rfl (aQ k_9 (hs.g 1 rfl) rfl)) rfl (lg rfl rfl hg (aR fo_30_8 rfl) rfl (lg rfl rfl hg (aO rfl (aQ k_9 (hs.g 0 rfl) rfl)) rfl (lg rfl rfl hg (po_eqt rfl rfl) rfl (lp (bO rfl rfl rfl) rfl (dM rfl rfl (lg rfl rfl hg (aR fo_30_6 rfl) rfl (lg rfl rfl hg (aO rfl (aQ k_23 (hs.g 1 rfl) rfl)) rfl (lg rfl rfl hg (aR fo_30_6 rfl) rfl (lg rfl rfl hg (aO rfl (aQ k_23 (hs.g 0 rfl) rfl)) rfl (cX rfl rfl hg (cF (cD rfl rfl ok_127 (c_SameBytes hs.isIn f1 g1)) rfl (fun v103 w HF => ?_))))))))))))
 obtain ⟨rfl, hc⟩ := HF
 replace hs := hs.frame hc
 refine lp (bO rfl rfl rfl) rfl (dM rfl rfl (lg rfl rfl hg (aR fo_30_14 rfl) rfl (lg rfl rfl hg (aO rfl (aQ k_28 (hs.g 1 rfl) rfl)) rfl (lg rfl rfl hg (aR fo_30_14 rfl) rfl (lg rfl rfl hg (aO rfl (aQ k_28 (hs.g 0 rfl) rfl)) rfl (cX rfl rfl hg (cF (cD rfl rfl ok_128 (c_sameTexts hs.isIn f2 g2 hn.1)) rfl (fun v110 w HF => ?_))))))))
 obtain ⟨rfl, hc⟩ := HF
 replace hs := hs.frame hc
 refine lp (bO rfl rfl rfl) rfl (dM rfl rfl (lg rfl rfl hg (aR fo_30_15 rfl) rfl (lg rfl rfl hg (aO rfl (aQ k_26 (hs.g 1 rfl) rfl)) rfl (lg rfl rfl hg (aR fo_30_15 rfl) rfl (lg rfl rfl hg (aO rfl (aQ k_26 (hs.g 0 rfl) rfl)) rfl (cX rfl rfl hg (cF (cD rfl rfl ok_129 (c_samePairs hs.isIn f3 g3 hn.2)) rfl (fun v117 w HF => ?_))))))))
 obtain ⟨rfl, hc⟩ := HF
 replace hs := hs.frame hc
 refine lp (bO rfl rfl rfl) rfl (dN rfl rfl (aH (aV ⟨_, fW rfl, ?_⟩)))
 exact ⟨rfl, (hs.drop hb3).drop hb2⟩
set_option maxHeartbeats 2000000 in
theorem c_SameRecords (hV : V.In w0) {rl : List fY} (ha : RRecs V a rl) (hb : RRecs V b rl) (hn : rl.length ≤ 4294967296) (hf : ∀ r ∈ rl, FewR r) : eC Tryz.prog 30 #[a, b] w0 fun v w' => v = .bool true ∧ St ⟨w0, V, V⟩ w' [] := by
 obtain ⟨xs1, hS1, hR1⟩ := ha
 obtain ⟨xs2, hS2, hR2⟩ := hb
 obtain ⟨a1, c1, rfl, hk1, h1⟩ := hS1.form
 obtain ⟨a2, c2, rfl, hk2, h2⟩ := hS2.form
 have hs := St.start hV
 refine aT [_, _] Tryz.func30 Tryz.ntmps30 Tryz.results30 rfl rfl (dP (dN rfl rfl (aH (aF (dP (dM rfl rfl (lp (bC Tryz.underlying31 rfl) rfl (dM rfl rfl (lp (bC Tryz.underlying31 rfl) rfl (lp (po_neq rfl rfl) rfl (aH (aY rfl ((by simp)) (aW ?_)))))))))))))
 refine aF (dP (dM rfl rfl (lp (bC Tryz.underlying31 rfl) rfl (dM rfl rfl (aH (bQ (dC (fun j : Nat => eH (eH (eH (eH (eH emp 13 (.int .i64 j)) 12 (.int .i64 rl.length)) 11 (.slice a1 rl.length c1)) 1 (.slice a2 rl.length c2)) 0 (.slice a1 rl.length c1)) (fun j w' => St ⟨w0, V, V⟩ w' [] ∧ j ≤ rl.length) (fun j => rl.length - j) 0 (aL rfl (aL rfl (aL rfl (aL rfl (aL rfl (bG _)))))) ⟨hs, Nat.zero_le _⟩ ?_)))))))
 clear hs
 rintro j w ⟨hs, hj⟩
 refine dP (lp (cY rfl rfl) rfl (aH (aF (bH rfl (fun hc1 => ?_) (fun hc1 => ?_)))))
 have hjl : j < rl.length := by omega
 obtain ⟨b1, p1, rfl, hc1⟩ := h1 (by omega)
 obtain ⟨b2, p2, rfl, hc2⟩ := h2 (by omega)
 obtain ⟨x, hx⟩ : ∃ x, rl[j]? = some x := ⟨_, List.getElem?_eq_getElem hjl⟩
 obtain ⟨e1, hr1, hl1, ht1⟩ := hR1.at hx
 obtain ⟨e2, hr2, hl2, ht2⟩ := hR2.at hx
 refine aW (aF (bQ (dP (dM rfl rfl (dN rfl rfl (aH (aF (bV hs [3, 7] mixed (fun w hs => dI 0 rfl (fun w => aC rfl) rfl rfl (dI 1 rfl (fun w => aC rfl) rfl rfl (dI 2 rfl (fun w => (eZ j (p1 + j * 16) es_31 rfl rfl rfl hjl rfl)) rfl rfl (dJ 3 rfl hs rfl (fun w hs => (aO rfl (ld_cells (l := e1) eJ hl1 (fun i u hu => by rw [Nat.add_assoc]; exact Vw.cell_in hs.isIn (hc1 _ _ (fN ht1 hu)))))) rfl (dI 4 rfl (fun w => aC rfl) rfl rfl ?_)))))))))))))
 refine dI 5 rfl (fun w => aC rfl) rfl rfl (dI 6 rfl (fun w => (eZ j (p2 + j * 16) es_31 rfl rfl rfl hjl rfl)) rfl rfl (dJ 7 rfl hs rfl (fun w hs => (aO rfl (ld_cells (l := e2) eJ hl2 (fun i u hu => by rw [Nat.add_assoc]; exact Vw.cell_in hs.isIn (hc2 _ _ (fN ht2 hu)))))) rfl (dL 8 rfl (cF (cD rfl rfl ok_58 (c_sameRecord hs.isIn hr1 hr2 (hf x (List.mem_of_getElem? hx)))) rfl (fun v24 w HF => ?_)))))
 obtain ⟨rfl, hc⟩ := HF
 replace hs := hs.frame hc
 refine ⟨fun h => absurd h (by decide +kernel), dI 9 rfl (fun w => cS rfl) rfl rfl (bS (by decide +kernel) (aY rfl rfl (aW (aB (lp (bN rfl rfl (fV (c := j + 1) (by omega) (by omega))) rfl (dM rfl rfl (aH ?_)))))))⟩
 exact ⟨j + 1, aL rfl (aL rfl (aL rfl (aL rfl (aL rfl (bG _))))), ⟨hs, by omega⟩, by omega⟩
 refine eT (dP (dN rfl rfl (aH (aV ⟨_, fW rfl, ?_⟩))))
 exact ⟨rfl, hs⟩
def FewL (rl : List fY) : Prop := rl.length ≤ 4294967296 ∧ ∀ r ∈ rl, FewR r
def FewM (x : PMsg) : Prop := x.asks.length ≤ 4294967296 ∧ FewL x.answers ∧ FewL x.authorities ∧ FewL x.additionals
set_option maxHeartbeats 4000000 in
theorem c_SameMessage (hV : V.In w0) {x : PMsg} {ra rb : List Value} (ha : RMsg V x ra) (hb : RMsg V x rb) (hn : FewM x) : eC Tryz.prog 13 #[.agg ra.toArray, .agg rb.toArray] w0 fun v w' => v = .bool true ∧ St ⟨w0, V, V⟩ w' [] := by
 obtain ⟨va, v1, v2, v3, rfl, f0, f1, f2, f3⟩ := ha
 obtain ⟨va', v1', v2', v3', rfl, g0, g1, g2, g3⟩ := hb
 have hs := St.start hV
 have hg : true = true := rfl
 refine aT [_, _] Tryz.func13 Tryz.ntmps13 Tryz.results13 rfl rfl (dP (aJ (cR hs rfl rfl rfl (fun b2 w hb2 hbe2 hs => aJ (cR hs rfl rfl rfl (fun b3 w hb3 hbe3 hs => dN rfl rfl (aH (aF ?_))))))))
 skip
 refine aB (lp (aR fo_36_0 rfl) rfl (lp (aO rfl (ld_hd (a := headC x.id x.bits) bZ (hs.g 1 rfl) rfl)) rfl (lp (aR fo_36_0 rfl) rfl (lp (aO rfl (ld_hd (a := headC x.id x.bits) bZ (hs.g 0 rfl) rfl)) rfl (lp (po_eqs_self ps_33 us_33 rfl rfl rfl) rfl (dM rfl rfl (lg rfl rfl hg (aR fo_36_1 rfl) rfl (lg rfl rfl hg (aO rfl (aQ k_34 (hs.g 1 rfl) rfl)) rfl (lg rfl rfl hg (aR fo_36_1 rfl) rfl (lg rfl rfl hg (aO rfl (aQ k_34 (hs.g 0 rfl) rfl)) rfl (cX rfl rfl hg (cF (cD rfl rfl ok_29 (c_sameAsks hs.isIn f0 g0 hn.1)) rfl (fun v15 w HF => ?_)))))))))))))
 obtain ⟨rfl, hc⟩ := HF
 replace hs := hs.frame hc
 refine lp (bO rfl rfl rfl) rfl (dM rfl rfl (lg rfl rfl hg (aR fo_36_2 rfl) rfl (lg rfl rfl hg (aO rfl (aQ k_31 (hs.g 1 rfl) rfl)) rfl (lg rfl rfl hg (aR fo_36_2 rfl) rfl (lg rfl rfl hg (aO rfl (aQ k_31 (hs.g 0 rfl) rfl)) rfl (cX rfl rfl hg (cF (cD rfl rfl ok_30 (c_SameRecords hs.isIn f1 g1 hn.2.1.1 hn.2.1.2)) rfl (fun v22 w HF => ?_))))))))
 obtain ⟨rfl, hc⟩ := HF
 replace hs := hs.frame hc
 refine lp (bO rfl rfl rfl) rfl (dM rfl rfl (lg rfl rfl hg (aR fo_36_3 rfl) rfl (lg rfl rfl hg (aO rfl (aQ k_31 (hs.g 1 rfl) rfl)) rfl (lg rfl rfl hg (aR fo_36_3 rfl) rfl (lg rfl rfl hg (aO rfl (aQ k_31 (hs.g 0 rfl) rfl)) rfl (cX rfl rfl hg (cF (cD rfl rfl ok_30 (c_SameRecords hs.isIn f2 g2 hn.2.2.1.1 hn.2.2.1.2)) rfl (fun v29 w HF => ?_))))))))
 obtain ⟨rfl, hc⟩ := HF
 replace hs := hs.frame hc
 refine lp (bO rfl rfl rfl) rfl (dM rfl rfl (lg rfl rfl hg (aR fo_36_4 rfl) rfl (lg rfl rfl hg (aO rfl (aQ k_31 (hs.g 1 rfl) rfl)) rfl (lg rfl rfl hg (aR fo_36_4 rfl) rfl (lg rfl rfl hg (aO rfl (aQ k_31 (hs.g 0 rfl) rfl)) rfl (cX rfl rfl hg (cF (cD rfl rfl ok_30 (c_SameRecords hs.isIn f3 g3 hn.2.2.2.1 hn.2.2.2.2)) rfl (fun v36 w HF => ?_))))))))
 obtain ⟨rfl, hc⟩ := HF
 replace hs := hs.frame hc
 refine lp (bO rfl rfl rfl) rfl (dN rfl rfl (aH (aV ⟨_, fW rfl, ?_⟩)))
 exact ⟨rfl, (hs.drop hb3).drop hb2⟩
end
end Go.Proofs.YtgpfjlfkaoffeaaGreatDoor

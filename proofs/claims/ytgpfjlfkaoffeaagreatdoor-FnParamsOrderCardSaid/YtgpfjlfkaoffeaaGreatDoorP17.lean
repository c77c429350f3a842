/- Bodies with options. -/
import Derived.Test.YtgpfjlfkaoffeaaGreatDoorP16
set_option linter.all false
namespace Go.Proofs.YtgpfjlfkaoffeaaGreatDoor
open Go
section
variable {A : Nat → Addr} {V : Vw} {w0 : World} {l : List UInt8} {mv : Value} {off : Int}
def optE (b6 n len : Nat) (mv : Value) (i : Nat) (sv : Value) : Env :=
 upd (upd (upd (upd (upd (upd emp 9 (.int .i64 n)) 8 sv) 2 (.int .u16 len)) 1 (.int .i64 i)) 0 mv) 6 (.pointer (some ⟨b6, 0, none⟩))
set_option maxHeartbeats 1000000 in
theorem c_unpackOPT (hG : Gl A V) (hV : V.In w0) (hb : RB V mv l) (len : Nat) {lv : Int} (hlv : lv = len) (hlen : len < 65536) (n : Nat) (hn : off = n) (h1 : n ≤ 1152921504606746970) (h2 : l.length ≤ 1152921504606746900) :
  CallsV Tryz.prog 169 #[mv, .int .i64 off, .int .u16 lv] w0 fun v w' => ∃ (V' : Vw) (cs : List Value) (e : Value) (k : EK), v = .tuple #[.agg cs.toArray, e] ∧ St ⟨w0, V, V'⟩ w' [] ∧ ErrV A e k ∧ cs.length = 1 ∧ Flat cs ∧
   ((∃ r, k = .ok ∧ body l n 10 len = some r ∧ BodyC V' 10 0 r cs) ∨ (k = .other ∧ body l n 10 len = none)) := by
 subst hn hlv
 obtain ⟨a, cap, rfl, hcap, ha⟩ := hb.form
 have hs := St.start hV
 refine aT [_, _, _] Tryz.func169 Tryz.ntmps169 Tryz.results169 rfl rfl (dP (aJ (aX hs z_205 rfl (fun b6 w hb6 he6 hs => dN rfl rfl (aH (dP (dN rfl rfl (aH (aF (dP (dM rfl rfl (dN rfl rfl (aH (bQ ?_))))))))))))))
 refine dC (fun g : Nat × List PPair × List Value × Value × Vw => optE b6 n len (.slice a l.length cap) g.1 g.2.2.2.1) (fun g w' => Sl 304 2 ⟨w0, V, g.2.2.2.2⟩ w' [(b6, .cells [Value.slice none 0 0].toArray 205 (0, 0))] g.2.2.2.1 g.2.1.length g.2.2.1 ∧ Rows 2 (RPair g.2.2.2.2) g.2.1 g.2.2.1 ∧ V.le g.2.2.2.2 ∧ optsS l g.1 (n + len) g.2.1 = optsS l n (n + len) [] ∧ n ≤ g.1 ∧ g.1 ≤ n + len + 65539 ∧ 4 * g.2.1.length + n ≤ g.1) (fun g => n + len - g.1) (n, [], [], .slice none 0 0, V) (aL rfl (aL rfl (aL rfl (aL rfl (aL rfl (aL rfl (bG _))))))) ⟨Sl.nil hs, rfl, V.le_refl, rfl, Nat.le_refl _, by omega, by simp⟩ ?_
 clear hs
 rintro ⟨i, acc, xs, sv, Vc⟩ w ⟨hsl, hrows, hle, hp, hi0, hi1, hacc⟩
 simp only at hsl hrows hle hp hi0 hi1 hacc ⊢
 replace hG := hG.mono hle
 replace hb := hb.mono hle
 obtain ⟨X, hX, hs⟩ := hsl.open
 refine aF (dP (dM rfl rfl (dM rfl rfl (dM rfl rfl (lp (bY Tryz.underlying22 Tryz.underlying3 rfl (i64c (c := len) rfl (by omega))) rfl (lp (bN rfl rfl (i64c (c := n + len) (by omega) (by omega))) rfl (lp (cY rfl rfl) rfl (aH (bH rfl (fun hc0 => ?_) (fun hc0 => ?_))))))))))
 · refine aW (bQ (dP (dN rfl rfl (aH (dP (aJ (aX hs z_304 rfl (fun b11 w hb11 he11 hs => aH (dP (dM rfl rfl (dM rfl rfl (aZ ok_149 rfl rfl (cP hG hs.isIn hb i rfl (by omega) (by omega)) rfl (fun v23 w HF => ?_)))))))))))))
   obtain ⟨hc, x, o, k, e, rfl, he, hr⟩ := HF
   replace hs := hs.frame hc
   refine dM rfl rfl (dO rfl rfl rfl (dO rfl rfl rfl (dO rfl rfl rfl (lp (aR fo_304_0 rfl) rfl (aJ (dQ 0 hs k_22 rfl rfl rfl rfl rfl rfl rfl (fun w hs => dN rfl rfl (dN rfl rfl (aH (aF (dP (dM rfl rfl (lp (bB he rfl) rfl (aH ?_))))))))))))))
   refine bH rfl (fun hc1 => ?_) (fun hc1 => ?_)
   replace hs := (SlX.close (L := [_, _]) hX hs).st.drop hb11
   refine dP (lp (bM (vs := []) (ps := []) rfl bz_205) rfl (dM rfl rfl (lp (bL rfl (by (simp only [List.all_cons, List.all_nil, he.oneCell]; rfl)) (bu_141_0_1 _ _)) rfl (aJ (cR hs rfl rfl rfl (fun b33 w hb33 hbe33 hs => ?_))))))
   replace hs := hs.drop hb33
   refine lp (cG Tryz.underlying139 (fun _ h => by cases h) rfl) rfl (aJ (dR 0 hs k_205 rfl rfl rfl (by simp) (by simp) (aG (by decide +kernel)) rfl (fun w hs => dN rfl rfl (aH (aV ⟨_, res2 ⟨_, rfl, aP k_205 (hs.g 0 rfl) (by simp)⟩ rfl, ?_⟩)))))
   have hno := (hr.badlen hc1).2
   exact ⟨Vc, _, _, .other, rfl, hs.drop hb6, dA, by simp, aG rfl, .inr ⟨rfl, by simp only [body]; rw [← hp, optsS, dif_pos (by omega), if_neg (by omega)]; rfl⟩⟩
   · have hk : k = .ok := by simpa using hc1
     subst hk
     obtain ⟨hx, rfl, rfl, hl1⟩ := hr.ok
     refine aW (dP (dN rfl rfl (aH (dP (dM rfl rfl (dM rfl rfl (aZ ok_149 rfl rfl (cP hG hs.isIn hb (i + 2) rfl (by omega) (by omega)) rfl (fun v38 w HF => ?_))))))))
     obtain ⟨hc, y, o, k, e, rfl, he, hr⟩ := HF
     replace hs := hs.frame hc
     refine dM rfl rfl (dO rfl rfl rfl (dO rfl rfl rfl (dO rfl rfl rfl (dN rfl rfl (dN rfl rfl (dN rfl rfl (aH (aF (dP (dM rfl rfl (lp (bB he rfl) rfl (aH (bH rfl (fun hc2 => ?_) (fun hc2 => ?_))))))))))))))
     replace hs := (SlX.close (L := [_, _]) hX hs).st.drop hb11
     refine dP (lp (bM (vs := []) (ps := []) rfl bz_205) rfl (dM rfl rfl (lp (bL rfl (by (simp only [List.all_cons, List.all_nil, he.oneCell]; rfl)) (bu_141_0_1 _ _)) rfl (aJ (cR hs rfl rfl rfl (fun b47 w hb47 hbe47 hs => ?_))))))
     replace hs := hs.drop hb47
     refine lp (cG Tryz.underlying139 (fun _ h => by cases h) rfl) rfl (aJ (dR 0 hs k_205 rfl rfl rfl (by simp) (by simp) (aG (by decide +kernel)) rfl (fun w hs => dN rfl rfl (aH (aV ⟨_, res2 ⟨_, rfl, aP k_205 (hs.g 0 rfl) (by simp)⟩ rfl, ?_⟩)))))
     have hno := (hr.badlen hc2).2
     exact ⟨Vc, _, _, .other, rfl, hs.drop hb6, dA, by simp, aG rfl, .inr ⟨rfl, by simp only [body]; rw [← hp, optsS, dif_pos (by omega), if_neg (by omega)]; rfl⟩⟩
     · have hk : k = .ok := by simpa using hc2
       subst hk
       obtain ⟨hy, rfl, rfl, hl2⟩ := hr.ok
       have hyl := w16_lt l (i + 2)
       refine aW (dP (dM rfl rfl (aJ (o_make (l := w16 l (i + 2)) (c := w16 l (i + 2)) el_23 hs rfl rfl rfl rfl (by omega) (by omega) (by omega) rfl (fun b50 w hb50 he50 hs => ?_)))))
       rw [made_one] at hs
       refine lp (aR fo_304_1 rfl) rfl (aJ (dQ 1 hs k_23 rfl rfl rfl rfl rfl rfl rfl (fun w hs => aH (aF (aF ?_)))))
       have hsrc := (hb.part (i := i + 2 + 2) (m := l.length - (i + 2 + 2)) (by omega))
       have hlseg : (seg l (i + 2 + 2) (l.length - (i + 2 + 2))).length = l.length - (i + 2 + 2) := seg_len (by omega)
       obtain ⟨q, hq⟩ : ∃ q, q = min (l.length - (i + 2 + 2)) (w16 l (i + 2)) := ⟨_, rfl⟩
       have hq1 : q ≤ w16 l (i + 2) := by omega
       have hq2 : q ≤ l.length - (i + 2 + 2) := by omega
       have hseq := seg_take (l := l) (i := i + 2 + 2) hq2
       refine bV hs [1] mixed (fun w hs => dI 0 rfl (fun w => aR fo_304_1 rfl) rfl rfl (dJ 1 rfl hs rfl (fun w hs => (aO rfl (aQ k_23 (hs.g 1 rfl) rfl))) rfl (dI 2 rfl (fun w => aC rfl) rfl rfl (dI 3 rfl (fun w => aC rfl) rfl rfl (dI 4 rfl (fun w => (po_tailR (i + 2 + 2) es_23 rfl rfl rfl (by omega) hcap)) rfl rfl (dI 6 rfl (fun w => aC rfl) rfl rfl (dI 7 rfl (fun w => (bY Tryz.underlying22 Tryz.underlying3 rfl (i64c (c := w16 l (i + 2)) rfl (by omega)))) rfl rfl (dL 5 rfl (o_copy (kk := 0) (k := q) (news := (seg l (i + 2 + 2) q).map byteVal) es_23 hs rfl rfl hsrc.len (by rw [hlseg, hq]) (by have := RB.fst (P := Tryz.prog) (k := q) hsrc hs.isIn (by omega); rwa [hseq] at this) (dH _) rfl (by simp; omega) rfl rfl (fun w hs => ⟨fun h => absurd h (by decide +kernel), dI 8 rfl (fun w => po_neq rfl rfl) rfl rfl (bS (by decide +kernel) (bH rfl (fun hc3 => ?_) (fun hc3 => ?_)))⟩))))))))))
       · replace hs := ((SlX.close (L := [_, _, _]) hX hs).st.drop hb50).drop hb11
         refine aF (bV hs [1] mixed (fun w hs => dI 0 rfl (fun w => (bM (vs := []) (ps := []) rfl bz_205)) rfl rfl (dJ 1 rfl hs rfl (fun w hs => (aO rfl (bR k_57 (hG.ld hs.isIn (g := 13) rfl)))) rfl (dI 2 rfl (fun w => (bL rfl rfl (bu_141_0_1 _ _))) rfl rfl (a_two 3 5 (by decide +kernel) rfl rfl ?_ ?_)))))
         refine cR hs rfl rfl rfl (fun b64 w hb64 hbe64 hs => ?_)
         replace hs := hs.drop hb64
         refine ⟨fun _ => hs, dI 4 rfl (fun w => (cG Tryz.underlying139 (fun _ h => by cases h) rfl)) rfl rfl (dL 5 rfl (dR 0 hs k_205 rfl rfl rfl (by simp) (by simp) (aG (by decide +kernel)) rfl (fun w hs => ⟨fun _ => hs, ?_⟩)))⟩
         rotate_left
         refine dR 0 hs k_205 rfl rfl rfl (by simp) (by simp) (aG (by decide +kernel)) rfl (fun w hs => ⟨fun _ => hs, dL 3 rfl (cR hs rfl rfl rfl (fun b64 w hb64 hbe64 hs => ?_))⟩)
         replace hs := hs.drop hb64
         refine ⟨fun _ => hs, dI 4 rfl (fun w => (cG Tryz.underlying139 (fun _ h => by cases h) rfl)) rfl rfl ?_⟩
         all_goals
          refine dI 6 rfl (fun w => aD rfl) rfl rfl (bS (by decide +kernel) (aV ⟨_, res2 ⟨_, rfl, aP k_205 (hs.g 0 rfl) (by simp)⟩ rfl, ?_⟩))
          have hno : ¬ (i + 4 ≤ l.length ∧ i + 4 + w16 l (i + 2) ≤ l.length) := by omega
          exact ⟨Vc, _, _, .other, rfl, hs.drop hb6, dA, by simp, aG rfl, .inr ⟨rfl, by simp only [body]; rw [← hp, optsS, dif_pos (by omega), if_neg hno]; rfl⟩⟩
       have hqe : q = w16 l (i + 2) := by omega
       have hfit : i + 4 + w16 l (i + 2) ≤ l.length := by omega
       refine aW (dP (dM rfl rfl (dM rfl rfl (lp (bY Tryz.underlying22 Tryz.underlying3 rfl (i64c (c := w16 l (i + 2)) rfl (by omega))) rfl (lp (bN rfl rfl (i64c (c := i + 4 + w16 l (i + 2)) (by omega) (by omega))) rfl (dN rfl rfl (aH ?_)))))))
       obtain ⟨V', hle', hbv, hs⟩ := hs.give hb50
       have hR : RB V' (.slice (some ⟨b50, 0, none⟩) (w16 l (i + 2)) (w16 l (i + 2))) (seg l (i + 4) (w16 l (i + 2))) := by
        have hcell : (List.take 0 (List.replicate (w16 l (i + 2)) (Value.int .u8 0)) ++ (seg l (i + 2 + 2) q).map byteVal ++ List.drop (0 + q * 1) (List.replicate (w16 l (i + 2)) (Value.int .u8 0))) = (seg l (i + 4) (w16 l (i + 2))).map byteVal := by
         rw [hqe, List.take_zero, List.nil_append, List.drop_eq_nil_of_le (by simp), List.append_nil]
        rw [hcell] at hbv
        have h3 := RB.of_block (V := V') (b := b50) (cap := w16 l (i + 2)) (l := seg l (i + 4) (w16 l (i + 2))) (sp := []) (by rw [List.append_nil]; exact hbv) (by rw [seg_len hfit]; exact Nat.le_refl _)
        rwa [seg_len hfit] at h3
       refine aB (dM rfl rfl (lp (aO rfl (aP k_304 (hs.g 0 rfl) (by simp))) rfl (l_app1 (cl := [.int .u16 (w16 l i), .slice (some ⟨b50, 0, none⟩) (w16 l (i + 2)) (w16 l (i + 2))]) el_203 (SlX.close (L := [_, _]) hX hs) (fun _ => rfl) rfl rfl rfl (aG rfl) (by omega) (by omega) (by omega) rfl rfl (fun b72 sv' w hs => ?_))))
       skip
       refine dN rfl rfl (aH ?_)
       have hs' : Sl 304 2 ⟨w0, V, V'⟩ w [(b6, .cells [Value.slice none 0 0].toArray 205 (0, 0))] sv' (acc ++ [(⟨w16 l i, seg l (i + 4) (w16 l (i + 2))⟩ : PPair)]).length (xs ++ [.int .u16 (w16 l i), .slice (some ⟨b50, 0, none⟩) (w16 l (i + 2)) (w16 l (i + 2))]) := by
        rw [List.length_append]; exact hs.drop hb11
       exact ⟨(i + 4 + w16 l (i + 2), acc ++ [(⟨w16 l i, seg l (i + 4) (w16 l (i + 2))⟩ : PPair)], _, sv', V'), aL rfl (aL rfl (aL rfl (aL rfl (aL rfl (aL rfl (bG _)))))), ⟨hs', Rows.snoc (hrows.mono fun _ _ h => h.mono hle') (show RPair V' ⟨w16 l i, seg l (i + 4) (w16 l (i + 2))⟩ _ from ⟨_, rfl, hR⟩) rfl, Vw.le_trans hle hle', by
        rw [← hp]
        conv => rhs; rw [optsS, dif_pos (by omega), if_pos ⟨by omega, hfit⟩], by simp only; omega, by simp only; omega, by simp; omega⟩, by simp only; omega⟩
 have hs := hsl.st
 refine e_exit (aF ?_)
 obtain ⟨V', hle', hT, hs⟩ := hsl.give
 have hT' : RPairs V' sv acc := ⟨xs, hT, hrows.mono fun _ _ h => h.mono hle'⟩
 refine aB (dM rfl rfl (lp (bL rfl (by simp only [List.all_cons, List.all_nil, hT'.oneCell]; rfl) (bu_205_0 _)) rfl (aJ (dR 0 hs k_205 rfl rfl rfl rfl (by simp) (bX hT'.oneCell flat_nil) rfl (fun w hs => dN rfl rfl (aH (aV ⟨_, res2 ⟨_, rfl, aP k_205 (hs.g 0 rfl) rfl⟩ rfl, ?_⟩)))))))
 exact ⟨V', _, _, .ok, rfl, hs.drop hb6, rfl, rfl, bX hT'.oneCell flat_nil, .inl ⟨_, rfl, by simp only [body]; rw [← hp, optsS, dif_neg (by omega)]; rfl, _, rfl, hT'⟩⟩
end
end Go.Proofs.YtgpfjlfkaoffeaaGreatDoor

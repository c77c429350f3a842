/- Bodies with parameters. -/
import Derived.Test.YtgpfjlfkaoffeaaGreatDoorR11
import Derived.Test.YtgpfjlfkaoffeaaGreatDoorR06
set_option linter.all false
namespace Go.Proofs.YtgpfjlfkaoffeaaGreatDoor
open Go
section
variable {A : Nat → Addr} {V : Vw} {w0 : World} {l : List UInt8} {mv : Value} {off : Int}
def svE (b6 b8 o e len : Nat) (mv : Value) (i n tot : Nat) : Env :=
 eH (eH (eH (eH (eH (eH (eH (eH (eH (eH emp 14 (.int .u16 0)) 13 (.int .u16 tot)) 12 (.int .i64 n)) 10 (.int .i64 e)) 9 (.int .i64 o)) 2 (.int .u16 len)) 1 (.int .i64 i)) 0 mv) 8 (.pointer (some ⟨b8, 0, none⟩))) 6 (.pointer (some ⟨b6, 0, none⟩))
theorem svE_sub {b6 b8 o e len : Nat} {mv : Value} {i n tot : Nat} {ρ : Env} (h6 : ρ 6 = some (.pointer (some ⟨b6, 0, none⟩))) (h8 : ρ 8 = some (.pointer (some ⟨b8, 0, none⟩))) (h0 : ρ 0 = some mv) (h1 : ρ 1 = some (.int .i64 i)) (h2 : ρ 2 = some (.int .u16 len))
  (h9 : ρ 9 = some (.int .i64 o)) (h10 : ρ 10 = some (.int .i64 e)) (h12 : ρ 12 = some (.int .i64 n)) (h13 : ρ 13 = some (.int .u16 tot)) (h14 : ρ 14 = some (.int .u16 0)) : Sub (svE b6 b8 o e len mv i n tot) ρ :=
 aL h6 (aL h8 (aL h0 (aL h1 (aL h2 (aL h9 (aL h10 (aL h12 (aL h13 (aL h14 (bG _))))))))))
def svF (b6 b8 e len N : Nat) (mv : Value) (i j : Nat) (vs : Value) : Env :=
 eH (eH (eH (eH (eH (eH (eH (eH (eH emp 18 (.int .i64 j)) 17 vs) 12 (.int .i64 N)) 10 (.int .i64 e)) 2 (.int .u16 len)) 1 (.int .i64 i)) 0 mv) 8 (.pointer (some ⟨b8, 0, none⟩))) 6 (.pointer (some ⟨b6, 0, none⟩))
theorem svF_sub {b6 b8 e len N : Nat} {mv : Value} {i j : Nat} {vs : Value} {ρ : Env} (h6 : ρ 6 = some (.pointer (some ⟨b6, 0, none⟩))) (h8 : ρ 8 = some (.pointer (some ⟨b8, 0, none⟩))) (h0 : ρ 0 = some mv) (h1 : ρ 1 = some (.int .i64 i)) (h2 : ρ 2 = some (.int .u16 len))
  (h10 : ρ 10 = some (.int .i64 e)) (h12 : ρ 12 = some (.int .i64 N)) (h17 : ρ 17 = some vs) (h18 : ρ 18 = some (.int .i64 j)) : Sub (svF b6 b8 e len N mv i j vs) ρ :=
 aL h6 (aL h8 (aL h0 (aL h1 (aL h2 (aL h10 (aL h12 (aL h17 (aL h18 (bG _)))))))))
def svZ : List Value := [.int .u16 0] ++ nmC [] 0 ++ [.slice none 0 0]
theorem cZ : svZ.length = 258 := by simp [svZ, cM]
theorem svZ_flat : Flat svZ := fD (fD (aG rfl) (eU _ _)) (aG rfl)
def svB (x : Nat) (out : List UInt8) (pv : Value) : List Value := [.int .u16 x] ++ nmC out out.length ++ [pv]
theorem svB_len {x : Nat} {out : List UInt8} {pv : Value} (h : out.length ≤ 254) : (svB x out pv).length = 258 := by
 have := cM (out := out) (n := out.length) (by omega)
 simp [svB, this]
theorem svB_flat {x : Nat} {out : List UInt8} {pv : Value} (h : pv.oneCell' = true) : Flat (svB x out pv) := fD (fD (aG rfl) (eU _ _)) (bX h eQ)
set_option maxHeartbeats 4000000 in
theorem c_unpackSVCB (hG : Gl A V) (hV : V.In w0) (hb : RB V mv l) (len : Nat) {lv : Int} (hlv : lv = len) (hlen : len < 65536) (n : Nat) (hn : off = n) (h1 : n ≤ 1152921504606746970) (h2 : l.length ≤ 1152921504606746900) :
  eC Tryz.prog 196 #[mv, .int .i64 off, .int .u16 lv] w0 fun v w' => ∃ (V' : Vw) (cs : List Value) (e : Value) (k : EK), v = .tuple #[.agg cs.toArray, e] ∧ St ⟨w0, V, V'⟩ w' [] ∧ ErrV A e k ∧ cs.length = 258 ∧ Flat cs ∧
   ((∃ r, k = .ok ∧ body l n 11 len = some r ∧ fL V' 11 0 r cs) ∨ (k = .other ∧ body l n 11 len = none)) := by
 subst hn hlv
 obtain ⟨a, cap, rfl, hcap, ha⟩ := hb.form
 have hs := St.start hV
 have hz : [Value.int .u16 0] ++ rep 256 (.int .u8 0) ++ [.slice none 0 0] = svZ := by rw [rep256]; rfl
 refine aT [_, _, _] Tryz.func196 Tryz.ntmps196 Tryz.results196 rfl rfl (dP (aJ (aX hs z_211 rfl (fun b6 w hb6 he6 hs => ?_))))
 rw [hz] at hs
 refine dN rfl rfl (aH (dP (lp (bM (vs := []) (ps := []) rfl bz_211) rfl ?_)))
 rw [hz]
 refine aJ (aX hs z_211 rfl (fun b8 w hb8 he8 hs => ?_))
 rw [hz] at hs
 refine aJ (dR 0 hs k_211 rfl rfl rfl cZ cZ svZ_flat rfl (fun w hs => aH (dP (dM rfl rfl (dN rfl rfl (aH (dP (dM rfl rfl (dM rfl rfl (lp (bY Tryz.underlying22 Tryz.underlying3 rfl (fV (c := len) rfl (by omega))) rfl (lp (bN rfl rfl (fV (c := n + len) (by omega) (by omega))) rfl (dN rfl rfl (aH (dP ?_))))))))))))))
 refine dN rfl rfl (aH (aF (dP (dM rfl rfl (dM rfl rfl (aZ ok_149 rfl rfl (cP hG hs.isIn hb n rfl (by omega) (by omega)) rfl (fun v31 w HF => ?_)))))))
 obtain ⟨hc, x, o1, k, e, rfl, he, hr⟩ := HF
 replace hs := hs.frame hc
 refine dM rfl rfl (dO rfl rfl rfl (dO rfl rfl rfl (dO rfl rfl rfl (lp (aR fo_211_0 rfl) rfl (aJ (dQ 0 hs eS rfl rfl rfl rfl rfl rfl rfl (fun w hs => dN rfl rfl (dN rfl rfl (aH (dP (dM rfl rfl (lp (bB he rfl) rfl (aH (bH rfl (fun hc0 => ?_) (fun hc0 => ?_)))))))))))))))
 refine dP (lp (bM (vs := []) (ps := []) rfl bz_211) rfl ?_)
 rw [hz]
 refine dM rfl rfl (lp (bL rfl (by (simp only [List.all_cons, List.all_nil, he.oneCell]; rfl)) (eI _ _)) rfl (aJ (cR hs rfl rfl rfl (fun b41 w hb41 hbe41 hs => ?_))))
 replace hs := hs.drop hb41
 refine lp (cG Tryz.underlying139 (fun _ h => by cases h) rfl) rfl (aJ (dR 1 hs k_211 rfl rfl rfl cZ cZ svZ_flat rfl (fun w hs => dN rfl rfl (aH (aV ⟨_, fX ⟨_, rfl, aP k_211 (hs.g 1 rfl) cZ⟩ rfl, ?_⟩)))))
 exact ⟨V, _, _, .other, rfl, (hs.drop hb8).drop hb6, dA, cZ, svZ_flat, .inr ⟨rfl, by simp [body, (hr.bad hc0).2]⟩⟩
 · have hk : k = .ok := by simpa using hc0
   subst hk
   obtain ⟨hx, rfl, hxe, hl0⟩ := hr.ok
   have hxl := hr.lt.1
   refine aW (aF (dP (lp (aR fo_211_1 rfl) rfl (dM rfl rfl (dM rfl rfl (aZ ok_151 rfl rfl (c_nameUnpack (pre := [.int .u16 x]) (post := [.slice none 0 0]) hG hs.isIn hb rfl (hs.g 0 rfl) (hs.off (k := 0) rfl) (n + 2) rfl (by omega) (by omega)) rfl (fun v47 w HF => ?_)))))))
   obtain ⟨o, k, e, out, z, rfl, he, ho, hz2, hc, hr⟩ := HF
   replace hs := hs.frame1 (k := 0) rfl rfl hc
   have hnl := cM (n := z) (Nat.le_trans ho (by decide : 254 ≤ 255))
   refine dM rfl rfl (dO rfl rfl rfl (dO rfl rfl rfl (dN rfl rfl (dN rfl rfl (aH (dP (dM rfl rfl (lp (bB he rfl) rfl (aH (bH rfl (fun hc1 => ?_) (fun hc1 => ?_)))))))))))
   refine dP (lp (bM (vs := []) (ps := []) rfl bz_211) rfl ?_)
   rw [hz]
   refine dM rfl rfl (lp (bL rfl (by (simp only [List.all_cons, List.all_nil, he.oneCell]; rfl)) (eI _ _)) rfl (aJ (cR hs rfl rfl rfl (fun b55 w hb55 hbe55 hs => ?_))))
   replace hs := hs.drop hb55
   refine lp (cG Tryz.underlying139 (fun _ h => by cases h) rfl) rfl (aJ (dR 1 hs k_211 rfl rfl rfl cZ cZ svZ_flat rfl (fun w hs => dN rfl rfl (aH (aV ⟨_, fX ⟨_, rfl, aP k_211 (hs.g 1 rfl) cZ⟩ rfl, ?_⟩)))))
   exact ⟨V, _, _, .other, rfl, (hs.drop hb8).drop hb6, dA, cZ, svZ_flat, .inr ⟨rfl, by simp [body, hx, (hr.bad hc1).2]⟩⟩
   · have hk : k = .ok := by simpa using hc1
     subst hk
     obtain ⟨hname, rfl⟩ := hr.ok
     have hol := (name_some hname).2.2
     have holt := name_lt hname
     have hbody : body l n 11 len = (parsS l o (n + len) []).map fun q => { kind := 11, n1 := x, host := out, pairs := q } := by simp only [body, hx, hname, Option.bind_some]
     refine aW (dP (dN rfl rfl (aH (dP (dN rfl rfl (aH (dP (dM rfl rfl (dN rfl rfl (aH (dP (dN rfl rfl (aH ?_)))))))))))))
     refine aF (bQ (dC (fun g : Nat × Nat × Nat => svE b6 b8 o (n + len) len (.slice a l.length cap) g.1 g.2.1 g.2.2) (fun g w' => St ⟨w0, V, V⟩ w' [(b8, .cells (svB x out (.slice none 0 0)).toArray 211 (0, 0)), (b6, .cells svZ.toArray 211 (0, 0))] ∧ par1 l g.1 (n + len) g.2.1 g.2.2 = par1 l o (n + len) 0 0 ∧ (g.1 ≤ n + len ∨ g.1 = o) ∧ o + 4 * g.2.1 + g.2.2 = g.1) (fun g => n + len - g.1) (o, 0, 0) (svE_sub rfl rfl rfl rfl rfl rfl rfl rfl rfl rfl) ⟨hs, rfl, .inr rfl, rfl⟩ ?_))
     clear hs
     rintro ⟨i, cnt, tot⟩ w ⟨hs, hp, hi1, hi2⟩
     simp only at hs hp hi1 hi2 ⊢
     refine aF (dP (dM rfl rfl (dM rfl rfl (lp (cY rfl rfl) rfl (aH (bH rfl (fun hc2 => ?_) (fun hc2 => ?_)))))))
     · refine aW (bQ (dP (dN rfl rfl (dN rfl rfl (aH (aF (dP (dM rfl rfl (dM rfl rfl (aZ ok_149 rfl rfl (cP hG hs.isIn hb i rfl (by omega) (by omega)) rfl (fun v64 w HF => ?_)))))))))))
       obtain ⟨hc, key, o3, k, e, rfl, he, hr⟩ := HF
       replace hs := hs.frame hc
       refine dM rfl rfl (dO rfl rfl rfl (dO rfl rfl rfl (dO rfl rfl rfl (dN rfl rfl (dN rfl rfl (dN rfl rfl (aH (dP (dM rfl rfl (lp (bB he rfl) rfl (aH (bH rfl (fun hc3 => ?_) (fun hc3 => ?_)))))))))))))
       refine dP (lp (bM (vs := []) (ps := []) rfl bz_211) rfl ?_)
       rw [hz]
       refine dM rfl rfl (lp (bL rfl (by (simp only [List.all_cons, List.all_nil, he.oneCell]; rfl)) (eI _ _)) rfl (aJ (cR hs rfl rfl rfl (fun b73 w hb73 hbe73 hs => ?_))))
       replace hs := hs.drop hb73
       refine lp (cG Tryz.underlying139 (fun _ h => by cases h) rfl) rfl (aJ (dR 1 hs k_211 rfl rfl rfl cZ cZ svZ_flat rfl (fun w hs => dN rfl rfl (aH (aV ⟨_, fX ⟨_, rfl, aP k_211 (hs.g 1 rfl) cZ⟩ rfl, ?_⟩)))))
       have hno := (hr.badlen hc3).2
       have hpn : par1 l o (n + len) 0 0 = none := by rw [← hp, par1, dif_pos (by omega), if_neg (by omega)]
       exact ⟨V, _, _, .other, rfl, (hs.drop hb8).drop hb6, dA, cZ, svZ_flat, .inr ⟨rfl, by rw [hbody, par1_none hpn [] rfl]; rfl⟩⟩
       · have hk : k = .ok := by simpa using hc3
         subst hk
         obtain ⟨hkey, rfl, rfl, hl3⟩ := hr.ok
         have hkl := w16_lt l i
         refine aW (aF (dG (fun ρ w => Sub (eH (eH (svE b6 b8 o (n + len) len (.slice a l.length cap) (i + 2) cnt tot) 15 (.int .u16 (w16 l i))) 81 (.bool (decide (0 < cnt ∧ w16 l i = 0)))) ρ ∧ St ⟨w0, V, V⟩ w [(b8, .cells (svB x out (.slice none 0 0)).toArray 211 (0, 0)), (b6, .cells svZ.toArray 211 (0, 0))]) ?_ ?_))
         cases hg : decide ((0 : Int) < (cnt : Int))
         refine aB (dM rfl rfl (lp (cQ rfl rfl) rfl (dM rfl rfl (aU rfl rfl hg rfl (aU rfl rfl hg rfl (aU rfl rfl hg rfl (lp (bW rfl hg rfl) rfl (aH ?_))))))))
         have hval : (false : Bool) = decide (0 < cnt ∧ w16 l i = 0) := by
          have := of_decide_eq_false hg
          symm
          apply decide_eq_false
          omega
         exact ⟨aL (congrArg (fun t => some (Value.bool t)) hval) (aL rfl (svE_sub rfl rfl rfl rfl rfl rfl rfl rfl rfl rfl)), hs⟩
         refine aB (dM rfl rfl (lp (cQ rfl rfl) rfl (dM rfl rfl (lg rfl rfl hg (aC rfl) rfl (lg rfl rfl hg (aC rfl) rfl (lg rfl rfl hg (po_leq rfl rfl) rfl (lp (bO rfl hg rfl) rfl (aH ?_))))))))
         have hval : decide (((w16 l i : Nat) : Int) ≤ 0) = decide (0 < cnt ∧ w16 l i = 0) := by
          have := of_decide_eq_true hg
          apply decide_eq_decide.2
          omega
         exact ⟨aL (congrArg (fun t => some (Value.bool t)) hval) (aL rfl (svE_sub rfl rfl rfl rfl rfl rfl rfl rfl rfl rfl)), hs⟩
         · clear hs
           rintro ρ w ⟨hsub, hs⟩
           refine EW.weaken hsub (bH rfl (fun hc4 => ?_) (fun hc4 => ?_))
           · refine aF (bV hs [1] mixed (fun w hs => dI 0 rfl (fun w => (bM (vs := []) (ps := []) rfl bz_211)) rfl rfl ?_))
             rw [hz]
             refine dJ 1 rfl hs rfl (fun w hs => (aO rfl (bR k_57 (hG.ld hs.isIn (g := 20) rfl)))) rfl (dI 2 rfl (fun w => (bL rfl rfl (eI _ _))) rfl rfl (a_two 3 5 (by decide +kernel) rfl rfl ?_ ?_))
             refine cR hs rfl rfl rfl (fun b85 w hb85 hbe85 hs => ?_)
             replace hs := hs.drop hb85
             refine ⟨fun _ => hs, dI 4 rfl (fun w => (cG Tryz.underlying139 (fun _ h => by cases h) rfl)) rfl rfl (dL 5 rfl (dR 1 hs k_211 rfl rfl rfl cZ cZ svZ_flat rfl (fun w hs => ⟨fun _ => hs, ?_⟩)))⟩
             rotate_left
             refine dR 1 hs k_211 rfl rfl rfl cZ cZ svZ_flat rfl (fun w hs => ⟨fun _ => hs, dL 3 rfl (cR hs rfl rfl rfl (fun b85 w hb85 hbe85 hs => ?_))⟩)
             replace hs := hs.drop hb85
             refine ⟨fun _ => hs, dI 4 rfl (fun w => (cG Tryz.underlying139 (fun _ h => by cases h) rfl)) rfl rfl ?_⟩
             all_goals
              refine dI 6 rfl (fun w => aD rfl) rfl rfl (bS (by decide +kernel) (aV ⟨_, fX ⟨_, rfl, aP k_211 (hs.g 1 rfl) cZ⟩ rfl, ?_⟩))
              have hpn : par1 l o (n + len) 0 0 = none := by rw [← hp, par1, dif_pos (by omega), if_neg (by omega)]
              exact ⟨V, _, _, .other, rfl, (hs.drop hb8).drop hb6, dA, cZ, svZ_flat, .inr ⟨rfl, by rw [hbody, par1_none hpn [] rfl]; rfl⟩⟩
           refine aW (aF (dP (dM rfl rfl (dM rfl rfl (aZ ok_149 rfl rfl (cP hG hs.isIn hb (i + 2) rfl (by omega) (by omega)) rfl (fun v90 w HF => ?_))))))
           obtain ⟨hc, sz, o4, k, e, rfl, he, hr⟩ := HF
           replace hs := hs.frame hc
           refine dM rfl rfl (dO rfl rfl rfl (dO rfl rfl rfl (dO rfl rfl rfl (dN rfl rfl (dN rfl rfl (dN rfl rfl (aH (dP (dM rfl rfl (lp (bB he rfl) rfl (aH (bH rfl (fun hc5 => ?_) (fun hc5 => ?_)))))))))))))
           refine dP (lp (bM (vs := []) (ps := []) rfl bz_211) rfl ?_)
           rw [hz]
           refine dM rfl rfl (lp (bL rfl (by (simp only [List.all_cons, List.all_nil, he.oneCell]; rfl)) (eI _ _)) rfl (aJ (cR hs rfl rfl rfl (fun b99 w hb99 hbe99 hs => ?_))))
           replace hs := hs.drop hb99
           refine lp (cG Tryz.underlying139 (fun _ h => by cases h) rfl) rfl (aJ (dR 1 hs k_211 rfl rfl rfl cZ cZ svZ_flat rfl (fun w hs => dN rfl rfl (aH (aV ⟨_, fX ⟨_, rfl, aP k_211 (hs.g 1 rfl) cZ⟩ rfl, ?_⟩)))))
           have hno := (hr.badlen hc5).2
           have hpn : par1 l o (n + len) 0 0 = none := by rw [← hp, par1, dif_pos (by omega), if_neg (by omega)]
           exact ⟨V, _, _, .other, rfl, (hs.drop hb8).drop hb6, dA, cZ, svZ_flat, .inr ⟨rfl, by rw [hbody, par1_none hpn [] rfl]; rfl⟩⟩
           have hk : k = .ok := by simpa using hc5
           subst hk
           obtain ⟨hsz, rfl, rfl, hl4⟩ := hr.ok
           have hszl := w16_lt l (i + 2)
           refine aW (aF (dP (dM rfl rfl (dM rfl rfl (lp (bY Tryz.underlying22 Tryz.underlying3 rfl (fV (c := w16 l (i + 2)) rfl (by omega))) rfl (lp (bN rfl rfl (fV (c := i + 4 + w16 l (i + 2)) (by omega) (by omega))) rfl (dM rfl rfl (lp (cQ rfl rfl) rfl (aH (bH rfl (fun hc6 => ?_) (fun hc6 => ?_)))))))))))
           refine aF (bV hs [1] mixed (fun w hs => dI 0 rfl (fun w => (bM (vs := []) (ps := []) rfl bz_211)) rfl rfl ?_))
           rw [hz]
           refine dJ 1 rfl hs rfl (fun w hs => (aO rfl (bR k_57 (hG.ld hs.isIn (g := 19) rfl)))) rfl (dL 2 rfl (dR 1 hs k_211 rfl rfl rfl cZ cZ svZ_flat rfl (fun w hs => ⟨fun _ => hs, dI 3 rfl (fun w => aD rfl) rfl rfl (bS (by decide +kernel) (aV ⟨_, fX ⟨_, rfl, aP k_211 (hs.g 1 rfl) cZ⟩ rfl, ?_⟩))⟩)))
           have hpn : par1 l o (n + len) 0 0 = none := by rw [← hp, par1, dif_pos (by omega), if_neg (by omega)]
           exact ⟨V, _, _, .other, rfl, (hs.drop hb8).drop hb6, errv_g (g := 19) rfl (by decide) (by decide), cZ, svZ_flat, .inr ⟨rfl, by rw [hbody, par1_none hpn [] rfl]; rfl⟩⟩
           refine aW (dP (dM rfl rfl (dM rfl rfl (lp (bN rfl rfl (u16c (c := tot + w16 l (i + 2)) (by omega) (by omega))) rfl (dN rfl rfl (aH (dP (dM rfl rfl (dM rfl rfl (lp (bY Tryz.underlying22 Tryz.underlying3 rfl (fV (c := w16 l (i + 2)) rfl (by omega))) rfl (lp (bN rfl rfl (fV (c := i + 4 + w16 l (i + 2)) (by omega) (by omega))) rfl (dN rfl rfl (aH ?_)))))))))))))
           refine aB (dM rfl rfl (lp (bN rfl rfl (fV (c := cnt + 1) (by omega) (by omega))) rfl (dN rfl rfl (aH ?_))))
           exact ⟨(i + 4 + w16 l (i + 2), cnt + 1, tot + w16 l (i + 2)), svE_sub rfl rfl rfl rfl rfl rfl rfl rfl rfl rfl, ⟨hs, by
            rw [← hp]
            conv => rhs; rw [par1, dif_pos (by omega), if_pos ⟨by omega, hc4, by omega⟩], by simp only; omega, by simp only; omega⟩, by simp only; omega⟩
     · refine eT (aF (dP (dM rfl rfl (dM rfl rfl (lp (po_neq rfl rfl) rfl (aH (bH rfl (fun hc7 => ?_) (fun hc7 => ?_))))))))
       refine aF (bV hs [1] mixed (fun w hs => dI 0 rfl (fun w => (bM (vs := []) (ps := []) rfl bz_211)) rfl rfl ?_))
       rw [hz]
       refine dJ 1 rfl hs rfl (fun w hs => (aO rfl (bR k_57 (hG.ld hs.isIn (g := 19) rfl)))) rfl (dL 2 rfl (dR 1 hs k_211 rfl rfl rfl cZ cZ svZ_flat rfl (fun w hs => ⟨fun _ => hs, dI 3 rfl (fun w => aD rfl) rfl rfl (bS (by decide +kernel) (aV ⟨_, fX ⟨_, rfl, aP k_211 (hs.g 1 rfl) cZ⟩ rfl, ?_⟩))⟩)))
       have hpn : par1 l o (n + len) 0 0 = none := by rw [← hp, par1, dif_neg (by omega), if_neg (by omega)]
       exact ⟨V, _, _, .other, rfl, (hs.drop hb8).drop hb6, errv_g (g := 19) rfl (by decide) (by decide), cZ, svZ_flat, .inr ⟨rfl, by rw [hbody, par1_none hpn [] rfl]; rfl⟩⟩
       · refine aW (aF ?_)
         have hie : i = n + len := by omega
         have hpe : par1 l o (n + len) 0 0 = some (cnt, tot) := by rw [← hp, par1, dif_neg (by omega), if_pos hie]
         have hnl' : ([Value.int .u16 x] ++ nmC out out.length).length = 257 := by simp [hnl]
         refine aB (dM rfl rfl (aJ (o_make (l := cnt) (c := cnt) el_209 hs rfl rfl rfl rfl (by omega) (by omega) (by omega) rfl (fun b124 w hb124 he124 hs => ?_))))
         obtain ⟨pc0, hpc0, hs⟩ : ∃ pc : List Value, pc.length = 2 * cnt ∧ St ⟨w0, V, V⟩ w [(b124, .cells pc.toArray 345 (0, 0)), (b8, .cells (svB x out (.slice none 0 0)).toArray 211 (0, 0)), (b6, .cells svZ.toArray 211 (0, 0))] := ⟨_, (made_len _ _).trans (by omega), hs⟩
         refine lp (aR fo_211_2 rfl) rfl (aJ (o_storeP (k := 1) (l' := svB x out (.slice (some ⟨b124, 0, none⟩) cnt cnt)) hs k_209 rfl rfl rfl rfl rfl (by rw [svB_len ho]; omega) (set_behind (i := 0) hnl' _) rfl (fun w hs => aH (dP (dM rfl rfl (aJ (o_make (l := tot) (c := tot) el_23 hs rfl rfl rfl rfl (by omega) (by omega) (by omega) rfl (fun b127 w hb127 he127 hs => ?_))))))))
         rw [made_one] at hs
         refine dN rfl rfl (aH (dP (dM rfl rfl (dN rfl rfl (aH (aF (dP (dN rfl rfl (aH (bQ (dC (fun g : Nat × Nat × Nat × List fU × List Value × List Value × List UInt8 × Nat => svF b6 b8 (n + len) len cnt (.slice a l.length cap) g.1 g.2.1 (.slice (some ⟨b127, g.2.2.2.2.2.2.2, none⟩) (tot - g.2.2.1) (tot - g.2.2.1))) (fun g w' => St ⟨w0, V, V⟩ w' [(b127, .cells g.2.2.2.2.2.1.toArray 5 (0, 0)), (b124, .cells g.2.2.2.2.1.toArray 345 (0, 0)), (b8, .cells (svB x out (.slice (some ⟨b124, 0, none⟩) cnt cnt)).toArray 211 (0, 0)), (b6, .cells svZ.toArray 211 (0, 0))] ∧ par1 l g.1 (n + len) g.2.1 g.2.2.1 = some (cnt, tot) ∧ parsS l g.1 (n + len) g.2.2.2.1 = parsS l o (n + len) [] ∧ g.2.2.2.1.length = g.2.1 ∧ g.2.2.2.2.1.length = 2 * cnt ∧ Rows 2 (PP b127 g.2.2.2.2.2.2.1) g.2.2.2.1 (g.2.2.2.2.1.take (2 * g.2.1)) ∧ g.2.2.2.2.2.1.length = tot ∧ g.2.2.2.2.2.1.take g.2.2.1 = g.2.2.2.2.2.2.1.map eA ∧ g.2.2.2.2.2.2.1.length = g.2.2.1 ∧ (g.2.2.2.2.2.2.2 = g.2.2.1 ∨ g.2.2.1 = tot) ∧ g.2.2.2.2.2.2.2 ≤ tot) (fun g => cnt - g.2.1) (o, 0, 0, [], pc0, List.replicate tot (Value.int .u8 0), [], 0) (svF_sub rfl rfl rfl rfl rfl rfl rfl rfl rfl) ⟨hs, hpe, rfl, rfl, hpc0, rfl, by simp, rfl, rfl, .inl rfl, Nat.zero_le _⟩ ?_)))))))))))
         have hcb : cnt ≤ 65536 ∧ tot ≤ 65536 := by omega
         clear hs hp hi1 hi2 hie
         rintro ⟨i, j, tt, acc, pc, vals, bytes, p⟩ w ⟨hs, hp, hpar, hacc, hpc, hrows, hvl, hvt, hbl, hpt, hpT⟩
         simp only at hs hp hpar hacc hpc hrows hvl hvt hbl hpt hpT ⊢
         have hps := par1_some hp
         refine aF (dP (dM rfl rfl (dM rfl rfl (lp (cY rfl rfl) rfl (aH (bH rfl (fun hc8 => ?_) (fun hc8 => ?_)))))))
         · obtain ⟨hm1, hm2, hm3, hm4, hm5⟩ := par1_more hp (by omega)
           have hm6 := par1_some hm5
           obtain ⟨mb, mp, rfl, hc⟩ := ha (by omega)
           have hmc := hc
           have hszl := w16_lt l (i + 2)
           have hkl := w16_lt l i
           refine aW (aF (bQ (dP (lp (aR fo_211_2 rfl) rfl (lp (aO rfl (cT k_209 (hs.g 2 rfl) hnl' (i := 0) rfl rfl)) rfl (dM rfl rfl (lp (eZ j (2 * j) es_209 rfl rfl rfl (by omega) (by omega)) rfl (dN rfl rfl (aH (dP (dN rfl rfl (dN rfl rfl (aH ?_)))))))))))))
           refine aF (dP (dM rfl rfl (dM rfl rfl (aZ ok_149 rfl rfl (cP hG hs.isIn hb i rfl (by omega) (by omega)) rfl (fun v141 w HF => ?_)))))
           obtain ⟨hc, key, o3, k, e, rfl, he, hr⟩ := HF
           replace hs := hs.frame hc
           refine dM rfl rfl (dO rfl rfl rfl (dO rfl rfl rfl (dO rfl rfl rfl (dN rfl rfl (dN rfl rfl (dN rfl rfl (aH (dP (dM rfl rfl (lp (bB he rfl) rfl (aH (bH rfl (fun hc9 => ?_) (fun hc9 => ?_)))))))))))))
           exact absurd (hr.badlen hc9).2 (by omega)
           · have hk : k = .ok := by simpa using hc9
             subst hk
             obtain ⟨hkey, rfl, rfl, hl3⟩ := hr.ok
             refine aW (dP (dM rfl rfl (dM rfl rfl (lp (aN rfl) rfl (lp (po_fa0' fo_345_0 rfl) rfl (aJ (o_storeP (k := 1) hs k_343 rfl rfl rfl rfl rfl (by omega) rfl rfl (fun w hs => aH (aF (dP (dM rfl rfl (dM rfl rfl (aZ ok_149 rfl rfl (cP hG hs.isIn hb (i + 2) rfl (by omega) (by omega)) rfl (fun v159 w HF => ?_))))))))))))))
             obtain ⟨hc, sz, o4, k, e, rfl, he, hr⟩ := HF
             replace hs := hs.frame hc
             refine dM rfl rfl (dO rfl rfl rfl (dO rfl rfl rfl (dO rfl rfl rfl (dN rfl rfl (dN rfl rfl (dN rfl rfl (aH (dP (dM rfl rfl (lp (bB he rfl) rfl (aH (bH rfl (fun hc10 => ?_) (fun hc10 => ?_)))))))))))))
             exact absurd (hr.badlen hc10).2 (by omega)
             · have hk : k = .ok := by simpa using hc10
               subst hk
               obtain ⟨hsz, rfl, rfl, hl4⟩ := hr.ok
               refine aW (aF (dP (dM rfl rfl (dM rfl rfl (lp (po_tail (i + 4) es_23 rfl rfl rfl (by omega) hcap) rfl (lp (bC Tryz.underlying23 rfl) rfl (dM rfl rfl (lp (bY Tryz.underlying22 Tryz.underlying3 rfl (fV (c := w16 l (i + 2)) rfl (by omega))) rfl (lp (cY rfl rfl) rfl (aH (bH rfl (fun hc11 => ?_) (fun hc11 => ?_))))))))))))
               · refine aF (bV hs [1] mixed (fun w hs => dI 0 rfl (fun w => (bM (vs := []) (ps := []) rfl bz_211)) rfl rfl ?_))
                 rw [hz]
                 refine dJ 1 rfl hs rfl (fun w hs => (aO rfl (bR k_57 (hG.ld hs.isIn (g := 13) rfl)))) rfl (dI 2 rfl (fun w => (bL rfl rfl (eI _ _))) rfl rfl (a_two 3 5 (by decide +kernel) rfl rfl ?_ ?_))
                 refine cR hs rfl rfl rfl (fun b180 w hb180 hbe180 hs => ?_)
                 replace hs := hs.drop hb180
                 refine ⟨fun _ => hs, dI 4 rfl (fun w => (cG Tryz.underlying139 (fun _ h => by cases h) rfl)) rfl rfl (dL 5 rfl (dR 3 hs k_211 rfl rfl rfl cZ cZ svZ_flat rfl (fun w hs => ⟨fun _ => hs, ?_⟩)))⟩
                 rotate_left
                 refine dR 3 hs k_211 rfl rfl rfl cZ cZ svZ_flat rfl (fun w hs => ⟨fun _ => hs, dL 3 rfl (cR hs rfl rfl rfl (fun b180 w hb180 hbe180 hs => ?_))⟩)
                 replace hs := hs.drop hb180
                 refine ⟨fun _ => hs, dI 4 rfl (fun w => (cG Tryz.underlying139 (fun _ h => by cases h) rfl)) rfl rfl ?_⟩
                 all_goals
                  refine dI 6 rfl (fun w => aD rfl) rfl rfl (bS (by decide +kernel) (aV ⟨_, fX ⟨_, rfl, aP k_211 (hs.g 3 rfl) cZ⟩ rfl, ?_⟩))
                  have hshort : parsS l i (n + len) acc = none := parsS_short hm1 (by omega)
                  exact ⟨V, _, _, .other, rfl, (((hs.drop hb127).drop hb124).drop hb8).drop hb6, dA, cZ, svZ_flat, .inr ⟨rfl, by rw [hbody, ← hpar, hshort]; rfl⟩⟩
               refine aW (aF (aF ?_))
               have hfit : i + 4 + w16 l (i + 2) ≤ l.length := by omega
               refine aB (dM rfl rfl (dM rfl rfl (dM rfl rfl (lp (po_tail (i + 4) es_23 rfl rfl rfl (by omega) hcap) rfl (dM rfl rfl (lp (bY Tryz.underlying22 Tryz.underlying3 rfl (fV (c := w16 l (i + 2)) rfl (by omega))) rfl (lp (po_head (w16 l (i + 2)) es_23 rfl rfl rfl (by omega)) rfl ?_)))))))
               have hsg : (seg l (i + 4) (w16 l (i + 2))).length = w16 l (i + 2) := seg_len hfit
               have hcells : ∀ q u, ((seg l (i + 4) (w16 l (i + 2))).map eA)[q]? = some u → w.cell? ⟨mb, (if cap = i + 4 then mp else mp + (i + 4)) + q, none⟩ = some u := by
                intro q u hu
                obtain ⟨hq, rfl⟩ := getElem_byte hu
                rw [hsg] at hq
                rw [if_neg (by omega), byteAt_seg hq, Nat.add_assoc]
                exact Vw.cell_in hs.isIn (hmc _ (by omega))
               refine aJ (o_copy (kk := 0) (k := w16 l (i + 2)) (sl := w16 l (i + 2)) (news := (seg l (i + 4) (w16 l (i + 2))).map eA) es_23 hs rfl rfl (by simp [Builtin.lenOf]) (Nat.min_eq_left (by omega)) (fst_slice (by simp [hsg]) hcells) (dH _) rfl (by omega) rfl rfl (fun w hs => dM rfl rfl (lp (bY Tryz.underlying22 Tryz.underlying3 rfl (fV (c := w16 l (i + 2)) rfl (by omega))) rfl (lp (po_neq rfl rfl) rfl (aH (aY rfl (decide_eq_false (by omega)) (aW (dP (dM rfl rfl (dM rfl rfl (dM rfl rfl (dM rfl rfl (lp (po_head3 (w16 l (i + 2)) es_23 rfl rfl rfl rfl rfl (by omega)) rfl (lp (aN rfl) rfl ?_))))))))))))))
               refine lp (bD fo_345_1 rfl) rfl (aJ (o_storeP (k := 1) hs k_23 rfl rfl rfl rfl rfl (by simp; omega) rfl rfl (fun w hs => aH (dP (dM rfl rfl (dM rfl rfl (lp (po_tail (w16 l (i + 2)) es_23 rfl rfl rfl (by omega) (Nat.le_refl _)) rfl (dN rfl rfl (aH (aB (dM rfl rfl (dM rfl rfl (lp (bY Tryz.underlying22 Tryz.underlying3 rfl (fV (c := w16 l (i + 2)) rfl (by omega))) rfl (lp (bN rfl rfl (fV (c := i + 4 + w16 l (i + 2)) (by omega) (by omega))) rfl ?_))))))))))))))
               refine dN rfl rfl (aH (aB (dM rfl rfl (lp (bN rfl rfl (fV (c := j + 1) (by omega) (by omega))) rfl (dN rfl rfl (aH ?_))))))
               have hrem : tot - tt - w16 l (i + 2) = tot - (tt + w16 l (i + 2)) := by omega
               have hstep := parsS_step (acc := acc) hm1 hm2 (by rw [hacc]; exact hm3) hfit
               have htake := set2_take (l := pc) (j := j) (a := .int .u16 (w16 l i)) (b := .slice (some ⟨b127, p, none⟩) (w16 l (i + 2)) (w16 l (i + 2))) (by omega)
               have hpp : PP b127 (bytes ++ seg l (i + 4) (w16 l (i + 2))) ⟨w16 l i, seg l (i + 4) (w16 l (i + 2))⟩ [.int .u16 (w16 l i), .slice (some ⟨b127, p, none⟩) (w16 l (i + 2)) (w16 l (i + 2))] := by
                refine ⟨p, by show _ = [Value.int .u16 (w16 l i), Value.slice (some ⟨b127, p, none⟩) (seg l (i + 4) (w16 l (i + 2))).length (seg l (i + 4) (w16 l (i + 2))).length]; rw [hsg], ?_⟩
                by_cases hz0 : w16 l (i + 2) = 0
                exact .inl (List.eq_nil_of_length_eq_zero (hsg.trans hz0))
                have hpe2 : p = tt := by omega
                refine .inr ⟨by simp [hsg, hpe2, hbl], ?_⟩
                show seg (bytes ++ seg l (i + 4) (w16 l (i + 2))) p (seg l (i + 4) (w16 l (i + 2))).length = _
                unfold seg at hsg ⊢
                rw [hpe2, ← hbl, List.drop_left, List.take_of_length_le (Nat.le_refl _)]
               exact ⟨(i + 4 + w16 l (i + 2), j + 1, tt + w16 l (i + 2), acc ++ [(⟨w16 l i, seg l (i + 4) (w16 l (i + 2))⟩ : fU)], _, _, bytes ++ seg l (i + 4) (w16 l (i + 2)), if tot - tt = w16 l (i + 2) then p else p + w16 l (i + 2)), svF_sub rfl rfl rfl rfl rfl rfl rfl (congrArg (fun t => some (Value.slice (some ⟨b127, if tot - tt = w16 l (i + 2) then p else p + w16 l (i + 2), none⟩) t t)) hrem) rfl, ⟨hs, hm5, hstep.symm.trans hpar, by simp [hacc], by simp [hpc], by
                simp only
                rw [htake]
                exact Rows.snoc (hrows.mono fun _ _ h => h.mono) hpp rfl, by
                simp [hsg]
                omega, by
                simp only
                by_cases hz0 : w16 l (i + 2) = 0
                have hnil : seg l (i + 4) (w16 l (i + 2)) = [] := List.eq_nil_of_length_eq_zero (by rw [hsg, hz0])
                rw [hnil, hz0]
                simpa using hvt
                have hpe2 : p = tt := by omega
                rw [hpe2, List.map_append, ← hvt]
                rw [List.take_append_of_le_length (by simp [hsg]; omega)]
                exact List.take_of_length_le (by simp [hsg]; omega), by simp [hbl, hsg], by
                simp only
                split
                exact .inr (by omega)
                rcases hpt with h | h
                exact .inl (by omega)
                exact .inr (by omega), by
                simp only
                split
                omega
                omega⟩, by simp only; omega⟩
         · refine eT (aF ?_)
           have hjN : j = cnt := by omega
           subst hjN
           obtain ⟨hie, htT⟩ := par1_end hp
           subst hie htT
           have hvals : vals = bytes.map eA := by rw [← hvt, List.take_of_length_le (by omega)]
           obtain ⟨V1, hle1, hbv1, hs⟩ := hs.give hb127
           obtain ⟨V2, hle2, hbv2, hs⟩ := hs.give hb124
           have hRP : eV V2 (.slice (some ⟨b124, 0, none⟩) j j) acc := by
            refine ⟨pc, ?_, ?_⟩
            rw [hacc]; exact SlV.cells (sp := []) (by rw [List.append_nil]; exact hbv2) (by omega) (Nat.le_refl _)
            · rw [List.take_of_length_le (by omega)] at hrows
              exact hrows.mono fun _ _ h => h.done (hle2 _ _ (by rw [← hvals]; exact hbv1))
           refine aB (lp (aO rfl (aP k_211 (hs.g 0 rfl) (svB_len ho))) rfl (aJ (dR 1 hs k_211 rfl rfl rfl (svB_len ho) cZ (svB_flat rfl) rfl (fun w hs => dN rfl rfl (aH (aV ⟨_, fX ⟨_, rfl, aP k_211 (hs.g 1 rfl) (svB_len ho)⟩ rfl, ?_⟩))))))
           exact ⟨V2, _, _, .ok, rfl, (hs.drop hb8).drop hb6, rfl, svB_len ho, svB_flat rfl, .inl ⟨_, rfl, by rw [hbody, ← hpar, parsS_end]; rfl, _, rfl, ho, hxl, hRP⟩⟩
end
end Go.Proofs.YtgpfjlfkaoffeaaGreatDoor

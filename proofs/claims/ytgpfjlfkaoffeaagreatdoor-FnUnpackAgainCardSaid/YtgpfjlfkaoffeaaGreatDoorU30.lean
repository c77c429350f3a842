/- The reference: bodies of parameters. -/
import Derived.Test.YtgpfjlfkaoffeaaGreatDoorU29
set_option linter.all false
namespace Go.Proofs.YtgpfjlfkaoffeaaGreatDoor
open Go
theorem words1f {l : List UInt8} {n q o : Nat} {cs cs' : List Value} (h : wordsS l n [q] cs = (false, o, cs')) : l.length < n + 2 ∧ o = n ∧ cs' = cs := by
 unfold wordsS at h
 split at h
 unfold wordsS at h; cases h
 cases h; exact ⟨by omega, rfl, rfl⟩
section
variable {V : Vw} {w0 : World} {l : List UInt8} {mv : Value} {off : Int}
set_option maxHeartbeats 4000000 in
theorem c_Body11 (hV : V.In w0) (hb : RB V mv l) (n : Nat) (hn : off = n) (len : Nat) {lv : Int} (hlv : lv = len) (h1 : n ≤ 1152921504606746970) (hlen : len ≤ 65536) (h2 : l.length ≤ 4294967296) :
  eC Tryz.prog 126 #[mv, .int .i64 off, .int .i64 11, .int .i64 lv] w0 fun v w' => ∃ (V' : Vw) (rc : List Value) (ok : Bool), v = .tuple #[.agg rc.toArray, .bool ok] ∧ St ⟨w0, V, V'⟩ w' [] ∧ SBody V' l n 11 len ok rc := by
 subst hn hlv
 obtain ⟨a, cap, rfl, hcap, ha⟩ := hb.form
 have hs := St.start hV
 refine aT [_, _, _, _] Tryz.func126 Tryz.ntmps126 Tryz.results126 rfl rfl (dP (aJ (aX hs z_30 rfl (fun b8 w hb8 he8 hs => dN rfl rfl (aH (dP (dM rfl rfl (lp (bL rfl (by rfl) (bu_30_5 _)) rfl (aJ (aX hs z_30 rfl (fun b10 w hb10 he10 hs => aJ (dR 0 hs eJ rfl rfl rfl (by simp) (by simp) (aG (by decide +kernel)) rfl (fun w hs => ?_)))))))))))))
 obtain ⟨zz, hzl, hs⟩ : ∃ zz : List Value, zz.length = 16 ∧ St ⟨w0, V, V⟩ w [(b10, .cells (eY { kind := 11 } (.slice none 0 0) (.slice none 0 0) (.slice none 0 0)).toArray 30 (0, 0)), (b8, .cells zz.toArray 30 (0, 0))] := ⟨_, rfl, hs⟩
 refine aH (dP (dN rfl rfl (aH (dP (dM rfl rfl (dM rfl rfl (lp (bN rfl rfl (fV (c := n + len) (by omega) (by omega))) rfl (dN rfl rfl (aH (aF (dP (dM rfl rfl (aH ?_)))))))))))))
 refine bQ (dP (lp (bI rfl rfl) rfl (dN rfl rfl (aH (aY rfl rfl (dP (lp (bI rfl rfl) rfl (dN rfl rfl (aH (aY rfl rfl (aF (dP (lp (bI rfl rfl) rfl ?_)))))))))))))
 refine dN rfl rfl (aH (aY rfl rfl (dP (lp (bI rfl rfl) rfl (dN rfl rfl (aH (aY rfl rfl (aB (lp (bI rfl rfl) rfl (dN rfl rfl (aH (aY rfl rfl (dP ?_)))))))))))))
 refine lp (bI rfl rfl) rfl (dN rfl rfl (aH (aY rfl rfl (dP (lp (bI rfl rfl) rfl (dN rfl rfl (aH (aY rfl rfl (dP (lp (bI rfl rfl) rfl (dN rfl rfl (aH (aY rfl rfl ?_)))))))))))))
 refine dP (lp (bI rfl rfl) rfl (dN rfl rfl (aH (aY rfl rfl (dP (lp (bI rfl rfl) rfl (dN rfl rfl (aH (aY rfl rfl (aF (dP (lp (bI rfl rfl) rfl (dN rfl rfl ?_)))))))))))))
 refine aH (cO rfl rfl (aW (cO rfl rfl (dP (dM rfl rfl (dM rfl rfl (lp (aR fo_30_9 rfl) rfl (aJ (o_bslice (vls := [[.pointer (some ⟨b10, 9, none⟩)]]) el_324 hs rfl rfl rfl rfl (by simp) (by decide) (by decide) rfl (fun b257 w hb257 he257 hs => ?_))))))))))
 obtain ⟨V1, hle1, hbv, hs⟩ := hs.give hb257
 have hsv : SlV V1 1 (.slice (some ⟨b257, 0, none⟩) 1 1) 1 ([9].map fun q => Value.pointer (some ⟨b10, q, none⟩)) := SlV.cells (sp := []) (by rw [List.append_nil]; exact hbv) rfl (Nat.le_refl _)
 replace hb := hb.mono hle1
 refine aZ ok_183 rfl rfl (c_words hs.isIn hb n rfl (by omega) (by omega) (hs.g 0 rfl) (hs.off (k := 0) rfl) [9] (by simp [eY]) hsv (by decide)) rfl (fun v258 w HF => ?_)
 obtain ⟨ok1, o1, cs', rfl, hc, hws⟩ := HF
 replace hs := hs.frame1 (k := 0) rfl rfl hc
 have hws1 := words1 hws
 refine dM rfl rfl (dO rfl rfl rfl (dO rfl rfl rfl (dN rfl rfl (dN rfl rfl (aH (dG (fun ρ w => ∃ (ok : Bool) (o0 n1 : Nat) (host : List UInt8), Sub (tyE (.slice a l.length cap) b8 b10 o0 (n + len) ok) ρ ∧ St ⟨w0, V, V1⟩ w [(b10, .cells (eY { kind := 11, n1 := n1, host := host } (.slice none 0 0) (.slice none 0 0) (.slice none 0 0)).toArray 30 (0, 0)), (b8, .cells zz.toArray 30 (0, 0))] ∧ o0 ≤ l.length + n ∧ ((ok = true ∧ n + 2 ≤ l.length ∧ n1 = w16 l n ∧ name l (n + 2) = some (host, o0)) ∨ (ok = false ∧ body l n 11 len = none))) ?_ ?_))))))
 refine dP (dM rfl rfl (aH (bJ rfl (fun hc12 => ?_) (fun hc12 => ?_))))
 subst hc12
 obtain ⟨hw, rfl, rfl⟩ := hws1.1 rfl
 refine aB (dM rfl rfl (dM rfl rfl (aZ ok_182 rfl rfl (c_Name hs.isIn hb (n + 2) rfl (by omega) (by omega)) rfl (fun v265 w HF => ?_))))
 obtain ⟨hc, out, o, ok, rfl, hr⟩ := HF
 replace hs := hs.frame hc
 refine dM rfl rfl (dO rfl rfl rfl (dO rfl rfl rfl (dO rfl rfl rfl (lp (aR fo_30_7 rfl) rfl (aJ (dQ 0 hs k_9 rfl rfl rfl rfl rfl rfl rfl (fun w hs => dN rfl rfl (dN rfl rfl (aH ⟨ok, o, w16 l n, out, dB rfl rfl rfl rfl rfl rfl, hs, ?_, ?_⟩)))))))))
 cases ok
 rw [hr.bad.2.2]; exact Nat.zero_le _
 have := (name_some hr.ok).2.2; omega
 cases ok
 exact .inr ⟨rfl, by simp only [body, rd16_yes hw, Option.bind_some, hr.bad.1, Option.bind_none]⟩
 exact .inl ⟨rfl, hw, rfl, hr.ok⟩
 subst hc12
 obtain ⟨hw, rfl, rfl⟩ := words1f hws
 refine aW ?_
 exact ⟨false, _, 0, [], dB rfl rfl rfl rfl rfl rfl, hs, by omega, .inr ⟨rfl, by simp only [body, rd16_no hw, Option.bind_none]⟩⟩
 · clear hs
   rintro ρ w ⟨ok, o0, n1, host, hsub, hs, hol, hst⟩
   refine EW.weaken hsub (aF (bQ ?_))
   refine dC (fun g : Nat × Bool × List fU × List Value × Value × Vw × Nat => tyE (.slice a l.length cap) b8 b10 g.1 (n + len) g.2.1) (fun g w' => Sl 25 2 ⟨w0, V, g.2.2.2.2.2.1⟩ w' [(b10, .cells (eY { kind := 11, n1 := n1, host := host } (.slice none 0 0) (.slice none 0 0) g.2.2.2.2.1).toArray 30 (0, 0)), (b8, .cells zz.toArray 30 (0, 0))] g.2.2.2.2.1 g.2.2.2.2.2.2 g.2.2.2.1 ∧ V1.le g.2.2.2.2.2.1 ∧ (g.2.1 = true → ok = true ∧ Rows 2 (RPair g.2.2.2.2.2.1) g.2.2.1 g.2.2.2.1 ∧ g.2.2.2.2.2.2 = g.2.2.1.length ∧ parsS l g.1 (n + len) g.2.2.1 = parsS l o0 (n + len) [] ∧ 4 * g.2.2.2.2.2.2 + o0 ≤ g.1) ∧ (g.2.1 = false → body l n 11 len = none) ∧ g.1 ≤ n + len + l.length + 65540) (fun g => if g.2.1 = true then (n + len - g.1) + 1 else 0) (o0, ok, [], [], .slice none 0 0, V1, 0) (dB rfl rfl rfl rfl rfl rfl) ⟨Sl.nil hs, V1.le_refl, fun h => ⟨h, rfl, rfl, rfl, by simp⟩, fun h => by
    rcases hst with ⟨h1, _⟩ | ⟨_, h1⟩
    simp only at h; rw [h1] at h; cases h
    exact h1, by simp only; omega⟩ ?_
   clear hs
   rintro ⟨i, okl, acc, xs, sv, Vc, m⟩ w ⟨hsl, hlev, hgood, hbad, hi⟩
   simp only at hsl hlev hgood hbad hi ⊢
   obtain ⟨sa, scap, rfl⟩ := hsl.size
   refine aF (dG (fun ρ w => Sub (eH (tyE (.slice a l.length cap) b8 b10 i (n + len) okl) 275 (.bool (okl && decide (i < n + len)))) ρ ∧ Sl 25 2 ⟨w0, V, Vc⟩ w [(b10, .cells (eY { kind := 11, n1 := n1, host := host } (.slice none 0 0) (.slice none 0 0) (.slice sa m scap)).toArray 30 (0, 0)), (b8, .cells zz.toArray 30 (0, 0))] (.slice sa m scap) m xs) ?_ ?_)
   cases okl
   have hg : false = !true := rfl
   refine aB (dM rfl rfl (dM rfl rfl (aU rfl rfl hg rfl (aU rfl rfl hg rfl (aU rfl rfl hg rfl (lp (bW rfl rfl rfl) rfl (aH ?_)))))))
   exact ⟨aL rfl (dB rfl rfl rfl rfl rfl rfl), hsl⟩
   have hg : true = true := rfl
   refine aB (dM rfl rfl (dM rfl rfl (lg rfl rfl hg (aC rfl) rfl (lg rfl rfl hg (aC rfl) rfl (lg rfl rfl hg (cY rfl rfl) rfl (lp (bO rfl rfl rfl) rfl (aH ?_)))))))
   have hval : decide ((i : Int) < ((n + len : Nat) : Int)) = (true && decide (i < n + len)) := by rw [Bool.true_and]; exact decide_eq_decide.2 (by omega)
   exact ⟨aL (congrArg (fun t => some (Value.bool t)) hval) (dB rfl rfl rfl rfl rfl rfl), hsl⟩
   · clear hsl
     rintro ρ w ⟨hsub, hsl⟩
     refine EW.weaken hsub (bJ rfl (fun hc13 => ?_) (fun hc13 => ?_))
     · refine aW (bQ (aF ?_))
       obtain ⟨rfl, hlt⟩ : okl = true ∧ i < n + len := by simpa using hc13
       obtain ⟨hok, hrows, hm, hp, h4⟩ := hgood rfl
       have ho0 : n ≤ o0 := by
        rcases hst with ⟨_, _, _, h⟩ | ⟨h, _⟩
        have := name_lt h; omega
        rw [hok] at h; cases h
       have hle := hsl.st.view
       replace hb := hb.mono hlev
       obtain ⟨X, hX, hs⟩ := hsl.open
       refine aB (lp (bM (vs := []) (ps := []) rfl bz_25) rfl (aJ (aX hs z_25 rfl (fun b18 w hb18 he18 hs => aJ (dR 0 hs k_25 rfl rfl rfl (by simp) (by simp) (aG (by decide +kernel)) rfl (fun w hs => dN rfl rfl (aH (dP (dM rfl rfl (dM rfl rfl (aZ ok_174 rfl rfl (c_two hs.isIn hb i rfl (by omega) (by omega)) rfl (fun v280 w HF => ?_))))))))))))
       obtain ⟨hc, x, o1, ok1, rfl, hr⟩ := HF
       replace hs := hs.frame hc
       have hxl := R16.lt hr
       refine dM rfl rfl (dO rfl rfl rfl (dO rfl rfl rfl (dO rfl rfl rfl (lp (aR fo_25_0 rfl) rfl (aJ (dQ 0 hs eS rfl rfl rfl rfl rfl rfl rfl (fun w hs => dN rfl rfl (dN rfl rfl (aH (dG (fun ρ w => ∃ (ok2 : Bool) (o nn : Nat), Sub (eH (eH (tyE (.slice a l.length cap) b8 b10 o (n + len) ok2) 19 (.int .u16 nn)) 18 (.pointer (some ⟨b18, 0, none⟩))) ρ ∧ St ⟨w0, V, Vc⟩ w ([(b18, .cells [Value.int .u16 (x : Nat), .slice none 0 0].toArray 25 (0, 0)), (b10, .cells (eY { kind := 11, n1 := n1, host := host } (.slice none 0 0) (.slice none 0 0) (.slice sa m scap)).toArray 30 (0, 0)), (b8, .cells zz.toArray 30 (0, 0))] ++ X) ∧ nn ≤ 65535 ∧ o ≤ i + 4 ∧ ((ok2 = true ∧ i + 4 ≤ l.length ∧ o = i + 4 ∧ nn = w16 l (i + 2) ∧ x = w16 l i) ∨ (ok2 = false ∧ l.length < i + 4))) ?_ ?_))))))))))
       refine dP (dM rfl rfl (aH (bJ rfl (fun hc14 => ?_) (fun hc14 => ?_))))
       subst hc14
       obtain ⟨_, rfl, rfl, hl1⟩ := hr.okB
       refine aB (dM rfl rfl (dM rfl rfl (aZ ok_174 rfl rfl (c_two hs.isIn hb (i + 2) rfl (by omega) (by omega)) rfl (fun v289 w HF => ?_))))
       obtain ⟨hc, y, o2, ok2, rfl, hr2⟩ := HF
       replace hs := hs.frame hc
       have hyl := R16.lt hr2
       refine dM rfl rfl (dO rfl rfl rfl (dO rfl rfl rfl (dO rfl rfl rfl (dN rfl rfl (dN rfl rfl (dN rfl rfl (aH ⟨ok2, o2, y, aL rfl (aL rfl (dB rfl rfl rfl rfl rfl rfl)), hs, by omega, by omega, ?_⟩)))))))
       cases ok2
       exact .inr ⟨rfl, by have := hr2.badB.2.1; omega⟩
       obtain ⟨_, rfl, rfl, hl2⟩ := hr2.okB
       exact .inl ⟨rfl, by omega, rfl, rfl, rfl⟩
       subst hc14
       refine aW ?_
       exact ⟨false, o1, 0, aL rfl (aL rfl (dB rfl rfl rfl rfl rfl rfl)), hs, by decide, by omega, .inr ⟨rfl, by have := hr.badB.2.1; omega⟩⟩
       · clear hs
         rintro ρ w ⟨ok2, o, nn, hsub, hs, hnn, hoi, h2s⟩
         refine EW.weaken hsub (dG (fun ρ w => Sub (eH (eH (tyE (.slice a l.length cap) b8 b10 o (n + len) (ok2 && !(decide (0 < m) && decide (x = 0)))) 19 (.int .u16 nn)) 18 (.pointer (some ⟨b18, 0, none⟩))) ρ ∧ St ⟨w0, V, Vc⟩ w ([(b18, .cells [Value.int .u16 (x : Nat), .slice none 0 0].toArray 25 (0, 0)), (b10, .cells (eY { kind := 11, n1 := n1, host := host } (.slice none 0 0) (.slice none 0 0) (.slice sa m scap)).toArray 30 (0, 0)), (b8, .cells zz.toArray 30 (0, 0))] ++ X)) ?_ ?_)
         · refine dG (fun ρ w => Sub (eH (eH (eH (tyE (.slice a l.length cap) b8 b10 o (n + len) ok2) 304 (.bool (ok2 && (decide (0 < m) && decide (x = 0))))) 19 (.int .u16 nn)) 18 (.pointer (some ⟨b18, 0, none⟩))) ρ ∧ St ⟨w0, V, Vc⟩ w ([(b18, .cells [Value.int .u16 (x : Nat), .slice none 0 0].toArray 25 (0, 0)), (b10, .cells (eY { kind := 11, n1 := n1, host := host } (.slice none 0 0) (.slice none 0 0) (.slice sa m scap)).toArray 30 (0, 0)), (b8, .cells zz.toArray 30 (0, 0))] ++ X)) ?_ ?_
           · obtain ⟨hm0, hh⟩ | ⟨hm0, hh⟩ | ⟨hm0, hh⟩ : (ok2 = false ∧ True) ∨ (ok2 = true ∧ m = 0) ∨ (ok2 = true ∧ 0 < m) := by cases ok2 <;> simp <;> omega
             all_goals subst hm0
             refine aB (dM rfl rfl (dM rfl rfl (aU rfl rfl rfl rfl (aU rfl rfl rfl rfl (aU rfl rfl rfl rfl (aU rfl rfl rfl rfl (lp (bW rfl rfl rfl) rfl (dM rfl rfl (aU rfl rfl rfl rfl (aU rfl rfl rfl rfl (aU rfl rfl rfl rfl (lp (bW rfl rfl rfl) rfl (aH ?_)))))))))))))
             exact ⟨aL rfl (aL rfl (aL rfl (dB rfl rfl rfl rfl rfl rfl))), hs⟩
             have hga : decide (((0 : Int) : Int) < (m : Int)) = false := decide_eq_false (by omega)
             refine aB (dM rfl rfl (dM rfl rfl (lg rfl rfl rfl (bD fo_30_15 rfl) rfl (lg rfl rfl rfl (aO rfl (aQ k_26 (hs.g 1 rfl) rfl)) rfl (lg rfl rfl rfl (bC Tryz.underlying26 rfl) rfl (lg rfl rfl rfl (cQ rfl rfl) rfl (lp (bO rfl rfl rfl) rfl (dM rfl rfl (aU rfl rfl hga rfl (aU rfl rfl hga rfl (aU rfl rfl hga rfl (lp (bW rfl hga rfl) rfl (aH ?_)))))))))))))
             have hval : (false : Bool) = (true && (decide (0 < m) && decide (x = 0))) := by rw [hh]; rfl
             exact ⟨aL rfl (aL rfl (aL (congrArg (fun t => some (Value.bool t)) hval) (dB rfl rfl rfl rfl rfl rfl))), hs⟩
             have hga : decide (((0 : Int) : Int) < (m : Int)) = true := decide_eq_true (by omega)
             refine aB (dM rfl rfl (dM rfl rfl (lg rfl rfl rfl (bD fo_30_15 rfl) rfl (lg rfl rfl rfl (aO rfl (aQ k_26 (hs.g 1 rfl) rfl)) rfl (lg rfl rfl rfl (bC Tryz.underlying26 rfl) rfl (lg rfl rfl rfl (cQ rfl rfl) rfl (lp (bO rfl rfl rfl) rfl (dM rfl rfl (lg rfl rfl hga (aR fo_25_0 rfl) rfl (lg rfl rfl hga (aO rfl (aQ eS (hs.g 0 rfl) rfl)) rfl (lg rfl rfl hga (bI rfl rfl) rfl (lp (bO rfl hga rfl) rfl (aH ?_)))))))))))))
             have hval : decide (((x : Nat) : Int) = 0) = (true && (decide (0 < m) && decide (x = 0))) := by rw [Bool.true_and, decide_eq_true hh, Bool.true_and]; exact decide_eq_decide.2 (by omega)
             exact ⟨aL rfl (aL rfl (aL (congrArg (fun t => some (Value.bool t)) hval) (dB rfl rfl rfl rfl rfl rfl))), hs⟩
           clear hs
           rintro ρ w ⟨hsub, hs⟩
           refine EW.weaken hsub (bJ rfl (fun hc15 => ?_) (fun hc15 => ?_))
           refine aB (dN rfl rfl (aH ?_))
           have hval : (false : Bool) = (ok2 && !(decide (0 < m) && decide (x = 0))) := by revert hc15; cases ok2 <;> cases decide (0 < m) <;> cases decide (x = 0) <;> simp
           exact ⟨aL rfl (aL rfl (dB rfl rfl rfl rfl (congrArg (fun t => some (Value.bool t)) hval) rfl)), hs⟩
           refine aW ?_
           have hval : ok2 = (ok2 && !(decide (0 < m) && decide (x = 0))) := by revert hc15; cases ok2 <;> cases decide (0 < m) <;> cases decide (x = 0) <;> simp
           exact ⟨aL rfl (aL rfl (dB rfl rfl rfl rfl (congrArg (fun t => some (Value.bool t)) hval) rfl)), hs⟩
         clear hs
         rintro ρ w ⟨hsub, hs⟩
         refine EW.weaken hsub ?_
         obtain ⟨okc, hokc⟩ : ∃ okc, okc = (ok2 && !(decide (0 < m) && decide (x = 0))) := ⟨_, rfl⟩
         rw [← hokc]
         refine dG (fun ρ w => ∃ (V2 : Vw) (bv : Value) (ok3 : Bool), Sub (eH (eH (tyE (.slice a l.length cap) b8 b10 o (n + len) ok3) 19 (.int .u16 nn)) 18 (.pointer (some ⟨b18, 0, none⟩))) ρ ∧ Vc.le V2 ∧ St ⟨w0, V, V2⟩ w ([(b18, .cells [Value.int .u16 (x : Nat), bv].toArray 25 (0, 0)), (b10, .cells (eY { kind := 11, n1 := n1, host := host } (.slice none 0 0) (.slice none 0 0) (.slice sa m scap)).toArray 30 (0, 0)), (b8, .cells zz.toArray 30 (0, 0))] ++ X) ∧ bv.oneCell' = true ∧ ((ok3 = true ∧ okc = true ∧ o + nn ≤ l.length ∧ RB V2 bv (seg l o nn)) ∨ (ok3 = false ∧ (okc = true → l.length < o + nn)))) ?_ ?_
         refine dP (dM rfl rfl (aH (bJ rfl (fun hc16 => ?_) (fun hc16 => ?_))))
         obtain rfl : okc = true := hc16
         refine aB (dM rfl rfl (dM rfl rfl (dM rfl rfl (lp (bY Tryz.underlying22 Tryz.underlying3 rfl (fV (c := nn) rfl (by omega))) rfl (aZ ok_181 rfl rfl (c_bytesAt hs.isIn hb o nn rfl rfl (by omega) (by omega) (by omega)) rfl (fun v311 w HF => ?_))))))
         obtain ⟨V2, bv, ok3, rfl, hc, hrb⟩ := HF
         have hle2 := hc.view
         replace hs := hs.frame hc
         refine dM rfl rfl (dO rfl rfl rfl (dO rfl rfl rfl (lp (aR fo_25_1 rfl) rfl (aJ (dQ 0 hs k_23 rfl rfl rfl hrb.oneCell rfl rfl rfl (fun w hs => dN rfl rfl (aH ⟨V2, bv, ok3, aL rfl (aL rfl (dB rfl rfl rfl rfl rfl rfl)), hle2, hs, hrb.oneCell, ?_⟩)))))))
         cases ok3
         exact .inr ⟨rfl, fun _ => hrb.badB.1⟩
         exact .inl ⟨rfl, rfl, hrb.okB.1, hrb.okB.2⟩
         obtain rfl : okc = false := hc16
         refine aW ?_
         exact ⟨Vc, .slice none 0 0, false, aL rfl (aL rfl (dB rfl rfl rfl rfl rfl rfl)), Vc.le_refl, hs, rfl, .inr ⟨rfl, fun h => by cases h⟩⟩
         clear hs
         rintro ρ w ⟨V2, bv, ok3, hsub, hle2, hs, hbv1, h3s⟩
         refine EW.weaken hsub (dP (dM rfl rfl (dM rfl rfl (lp (bY Tryz.underlying22 Tryz.underlying3 rfl (fV (c := nn) rfl (by omega))) rfl (lp (bN rfl rfl (fV (c := o + nn) (by omega) (by omega))) rfl (dN rfl rfl (aH (aB (lp (aR fo_30_15 rfl) rfl (lp (aO rfl (aQ k_26 (hs.g 1 rfl) rfl)) rfl (lp (aO rfl (aP k_25 (hs.g 0 rfl) (by simp))) rfl (l_app1 (cl := [.int .u16 (x : Nat), bv]) el_26 (SlX.close (L := [_, _, _]) hX hs) (fun _ => rfl) rfl rfl rfl (bX rfl (bX hbv1 eQ)) (by omega) (by omega) (by omega) rfl rfl (fun b322 sv' w hs => ?_)))))))))))))
         have hone := hs.oneCell
         obtain ⟨X2, hX2, hs⟩ := (hs.drop hb18).open
         skip
         refine lp (aR fo_30_15 rfl) rfl (aJ (dQ 0 hs k_26 rfl rfl rfl hone rfl rfl rfl (fun w hs => aH ?_)))
         have hokc' : okc = true ↔ ok2 = true ∧ ¬ (acc ≠ [] ∧ x = 0) := by
          have hma : 0 < m ↔ acc ≠ [] := by rw [hm]; exact List.length_pos_iff
          rw [hokc]
          simp only [Bool.and_eq_true, Bool.not_eq_true', Bool.and_eq_false_iff, decide_eq_false_iff_not, hma]
          constructor
          rintro ⟨h1, h2⟩; exact ⟨h1, fun ⟨q1, q2⟩ => by rcases h2 with h2 | h2; exact h2 q1; exact h2 q2⟩
          rintro ⟨h1, h2⟩; exact ⟨h1, by by_cases q : acc ≠ []; exact .inr fun q2 => h2 ⟨q, q2⟩; exact .inl q⟩
         refine ⟨(o + nn, ok3, acc ++ [⟨x, seg l o nn⟩], _, sv', V2, m + 1), dB rfl rfl rfl rfl rfl rfl, ⟨SlX.close (L := [_, _]) hX2 hs, Vw.le_trans hlev hle2, fun hk => ?_, fun hk => ?_, by simp only; omega⟩, ?_⟩
         simp only at hk; subst hk
         obtain ⟨_, hk2, hfit, hRB⟩ : true = true ∧ okc = true ∧ o + nn ≤ l.length ∧ RB V2 bv (seg l o nn) := by
          rcases h3s with h | ⟨h, _⟩
          exact h
          cases h
         obtain ⟨hk3, hnz⟩ := hokc'.1 hk2
         obtain ⟨_, hl4, rfl, rfl, rfl⟩ : true = true ∧ i + 4 ≤ l.length ∧ o = i + 4 ∧ nn = w16 l (i + 2) ∧ x = w16 l i := by
          rcases h2s with ⟨_, h⟩ | ⟨h, _⟩
          exact ⟨rfl, h⟩
          rw [h] at hk3; cases hk3
         refine ⟨hok, Rows.snoc (hrows.mono fun _ _ h => h.mono hle2) ⟨bv, rfl, hRB⟩ rfl, by simp [hm], ?_, by simp only; omega⟩
         rw [← hp]
         conv => rhs; rw [parsS, dif_pos hlt, if_pos ⟨hl4, hfit, hnz⟩]
         simp only at hk; subst hk
         obtain ⟨_, hw2, rfl, hname⟩ : true = true ∧ n + 2 ≤ l.length ∧ n1 = w16 l n ∧ name l (n + 2) = some (host, o0) := by
          rcases hst with ⟨_, h⟩ | ⟨h, _⟩
          exact ⟨rfl, h⟩
          rw [hok] at h; cases h
         have hno : parsS l i (n + len) acc = none := by
          rw [parsS, dif_pos hlt, if_neg]
          rintro ⟨q1, q2, q3⟩
          rcases h3s with ⟨h, _⟩ | ⟨_, h⟩
          cases h
          rcases h2s with ⟨h1, _, rfl, rfl, rfl⟩ | ⟨_, h1⟩
          have := h (hokc'.2 ⟨h1, q3⟩); omega
          omega
         rw [hp] at hno
         simp only [body, rd16_yes hw2, Option.bind_some, hname, hno, Option.map_none]
         simp only
         rw [if_pos trivial]
         split
         rename_i hk
         rcases h3s with ⟨_, hk2, _⟩ | ⟨h, _⟩
         rcases h2s with ⟨_, _, rfl, _⟩ | ⟨h, _⟩
         omega
         have := (hokc'.1 hk2).1; rw [h] at this; cases this
         rw [h] at hk; cases hk
         omega
     refine eT ?_
     cases okl
     have hg : false = !true := rfl
     refine aB (dM rfl rfl (dM rfl rfl (aU rfl rfl hg rfl (aU rfl rfl hg rfl (aU rfl rfl hg rfl (lp (bW rfl rfl rfl) rfl (dN rfl rfl (aH (aF (dP (dM rfl rfl (lp (cS rfl) rfl (aH ?_)))))))))))))
     refine cO rfl rfl (aF ?_)
     have hs := hsl.st
     refine aB (lp (bM (vs := []) (ps := []) rfl bz_30) rfl (aJ (dR 1 hs eJ rfl rfl rfl rfl hzl (aG rfl) rfl (fun w hs => dN rfl rfl (aH (aV ⟨_, fX ⟨_, rfl, aP eJ (hs.g 1 rfl) rfl⟩ rfl, ?_⟩))))))
     exact ⟨Vc, _, false, rfl, (hs.drop hb10).drop hb8, rfl, aG rfl, .inr ⟨rfl, hbad rfl⟩⟩
     have hg : true = true := rfl
     refine aB (dM rfl rfl (dM rfl rfl (lg rfl rfl hg (aC rfl) rfl (lg rfl rfl hg (aC rfl) rfl (lg rfl rfl hg (bI rfl rfl) rfl (lp (bO rfl rfl rfl) rfl (dN rfl rfl (aH (aF (dP (dM rfl rfl (lp (cS rfl) rfl (aH ?_)))))))))))))
     refine bJ rfl (fun hc18 => ?_) (fun hc18 => ?_)
     refine aF ?_
     have hs := hsl.st
     refine aB (lp (bM (vs := []) (ps := []) rfl bz_30) rfl (aJ (dR 1 hs eJ rfl rfl rfl rfl hzl (aG rfl) rfl (fun w hs => dN rfl rfl (aH (aV ⟨_, fX ⟨_, rfl, aP eJ (hs.g 1 rfl) rfl⟩ rfl, ?_⟩))))))
     have hno : body l n 11 len = none := by
      obtain ⟨hok, hrows, hm, hp, h4⟩ := hgood rfl
      obtain ⟨_, hw2, rfl, hname⟩ : true = true ∧ n + 2 ≤ l.length ∧ n1 = w16 l n ∧ name l (n + 2) = some (host, o0) := by
       rcases hst with ⟨_, h⟩ | ⟨h, _⟩
       exact ⟨rfl, h⟩
       rw [hok] at h; cases h
      have h1 := hc18
      have h2 := hc13
      simp at h1 h2
      have hz : parsS l i (n + len) acc = none := parsS_over (by omega)
      rw [hp] at hz
      simp only [body, rd16_yes hw2, Option.bind_some, hname, hz, Option.map_none]
     exact ⟨Vc, _, false, rfl, (hs.drop hb10).drop hb8, rfl, aG rfl, .inr ⟨rfl, hno⟩⟩
     refine aW (aF ?_)
     obtain rfl : i = n + len := by have h := hc18; simp at h; omega
     obtain ⟨hok, hrows, hm, hp, h4⟩ := hgood rfl
     subst hm
     obtain ⟨_, hw2, rfl, hname⟩ : true = true ∧ n + 2 ≤ l.length ∧ n1 = w16 l n ∧ name l (n + 2) = some (host, o0) := by
      rcases hst with ⟨_, h⟩ | ⟨h, _⟩
      exact ⟨rfl, h⟩
      rw [hok] at h; cases h
     obtain ⟨V', hle', hsv, hs⟩ := hsl.give
     have hT : eV V' (.slice sa acc.length scap) acc := ⟨xs, hsv, hrows.mono fun _ _ h => h.mono hle'⟩
     have hRR : RRec V' { kind := 11, n1 := w16 l n, host := host, pairs := acc } (eY { kind := 11, n1 := w16 l n, host := host } (.slice none 0 0) (.slice none 0 0) (.slice sa acc.length scap)) := ⟨_, _, _, rfl, RB.nil V', fF.nil V', hT⟩
     refine aB (lp (aO rfl (aP eJ (hs.g 0 rfl) hRR.flat.2)) rfl (aJ (dR 1 hs eJ rfl rfl rfl hRR.flat.2 hzl hRR.flat.1 rfl (fun w hs => dN rfl rfl (aH (aV ⟨_, fX ⟨_, rfl, aP eJ (hs.g 1 rfl) hRR.flat.2⟩ rfl, ?_⟩))))))
     exact ⟨V', _, true, rfl, (hs.drop hb10).drop hb8, hRR.flat.2, hRR.flat.1, .inl ⟨rfl, _, by simp only [body, rd16_yes hw2, Option.bind_some, hname]; rw [← hp, parsS, dif_neg (by omega), if_pos rfl]; rfl, hRR⟩⟩
set_option maxHeartbeats 4000000 in
theorem c_Body12 (hV : V.In w0) (hb : RB V mv l) (n : Nat) (hn : off = n) (len : Nat) {lv : Int} (hlv : lv = len) (h1 : n ≤ 1152921504606746970) (hlen : len ≤ 65536) (h2 : l.length ≤ 4294967296) :
  eC Tryz.prog 126 #[mv, .int .i64 off, .int .i64 12, .int .i64 lv] w0 fun v w' => ∃ (V' : Vw) (rc : List Value) (ok : Bool), v = .tuple #[.agg rc.toArray, .bool ok] ∧ St ⟨w0, V, V'⟩ w' [] ∧ SBody V' l n 12 len ok rc := by
 subst hn hlv
 obtain ⟨a, cap, rfl, hcap, ha⟩ := hb.form
 have hs := St.start hV
 refine aT [_, _, _, _] Tryz.func126 Tryz.ntmps126 Tryz.results126 rfl rfl (dP (aJ (aX hs z_30 rfl (fun b8 w hb8 he8 hs => dN rfl rfl (aH (dP (dM rfl rfl (lp (bL rfl (by rfl) (bu_30_5 _)) rfl (aJ (aX hs z_30 rfl (fun b10 w hb10 he10 hs => aJ (dR 0 hs eJ rfl rfl rfl (by simp) (by simp) (aG (by decide +kernel)) rfl (fun w hs => ?_)))))))))))))
 obtain ⟨zz, hzl, hs⟩ : ∃ zz : List Value, zz.length = 16 ∧ St ⟨w0, V, V⟩ w [(b10, .cells (eY { kind := 12 } (.slice none 0 0) (.slice none 0 0) (.slice none 0 0)).toArray 30 (0, 0)), (b8, .cells zz.toArray 30 (0, 0))] := ⟨_, rfl, hs⟩
 refine aH (dP (dN rfl rfl (aH (dP (dM rfl rfl (dM rfl rfl (lp (bN rfl rfl (fV (c := n + len) (by omega) (by omega))) rfl (dN rfl rfl (aH (aF (dP (dM rfl rfl (aH ?_)))))))))))))
 refine bQ (dP (lp (bI rfl rfl) rfl (dN rfl rfl (aH (aY rfl rfl (dP (lp (bI rfl rfl) rfl (dN rfl rfl (aH (aY rfl rfl (aF (dP (lp (bI rfl rfl) rfl ?_)))))))))))))
 refine dN rfl rfl (aH (aY rfl rfl (dP (lp (bI rfl rfl) rfl (dN rfl rfl (aH (aY rfl rfl (aB (lp (bI rfl rfl) rfl (dN rfl rfl (aH (aY rfl rfl (dP ?_)))))))))))))
 refine lp (bI rfl rfl) rfl (dN rfl rfl (aH (aY rfl rfl (dP (lp (bI rfl rfl) rfl (dN rfl rfl (aH (aY rfl rfl (dP (lp (bI rfl rfl) rfl (dN rfl rfl (aH (aY rfl rfl ?_)))))))))))))
 refine dP (lp (bI rfl rfl) rfl (dN rfl rfl (aH (aY rfl rfl (dP (lp (bI rfl rfl) rfl (dN rfl rfl (aH (aY rfl rfl (aF (dP (lp (bI rfl rfl) rfl (dN rfl rfl ?_)))))))))))))
 refine aH (aY rfl rfl (aB (lp (bI rfl rfl) rfl (dN rfl rfl (aH (cO rfl rfl (dP (dM rfl rfl (dM rfl rfl (lp (aR fo_30_9 rfl) rfl (aJ (o_bslice (vls := [[.pointer (some ⟨b10, 9, none⟩)]]) el_324 hs rfl rfl rfl rfl (by simp) (by decide) (by decide) rfl (fun b257 w hb257 he257 hs => ?_)))))))))))))
 obtain ⟨V1, hle1, hbv, hs⟩ := hs.give hb257
 have hsv : SlV V1 1 (.slice (some ⟨b257, 0, none⟩) 1 1) 1 ([9].map fun q => Value.pointer (some ⟨b10, q, none⟩)) := SlV.cells (sp := []) (by rw [List.append_nil]; exact hbv) rfl (Nat.le_refl _)
 replace hb := hb.mono hle1
 refine aZ ok_183 rfl rfl (c_words hs.isIn hb n rfl (by omega) (by omega) (hs.g 0 rfl) (hs.off (k := 0) rfl) [9] (by simp [eY]) hsv (by decide)) rfl (fun v258 w HF => ?_)
 obtain ⟨ok1, o1, cs', rfl, hc, hws⟩ := HF
 replace hs := hs.frame1 (k := 0) rfl rfl hc
 have hws1 := words1 hws
 refine dM rfl rfl (dO rfl rfl rfl (dO rfl rfl rfl (dN rfl rfl (dN rfl rfl (aH (dG (fun ρ w => ∃ (ok : Bool) (o0 n1 : Nat) (host : List UInt8), Sub (tyE (.slice a l.length cap) b8 b10 o0 (n + len) ok) ρ ∧ St ⟨w0, V, V1⟩ w [(b10, .cells (eY { kind := 12, n1 := n1, host := host } (.slice none 0 0) (.slice none 0 0) (.slice none 0 0)).toArray 30 (0, 0)), (b8, .cells zz.toArray 30 (0, 0))] ∧ o0 ≤ l.length + n ∧ ((ok = true ∧ n + 2 ≤ l.length ∧ n1 = w16 l n ∧ name l (n + 2) = some (host, o0)) ∨ (ok = false ∧ body l n 12 len = none))) ?_ ?_))))))
 refine dP (dM rfl rfl (aH (bJ rfl (fun hc12 => ?_) (fun hc12 => ?_))))
 subst hc12
 obtain ⟨hw, rfl, rfl⟩ := hws1.1 rfl
 refine aB (dM rfl rfl (dM rfl rfl (aZ ok_182 rfl rfl (c_Name hs.isIn hb (n + 2) rfl (by omega) (by omega)) rfl (fun v265 w HF => ?_))))
 obtain ⟨hc, out, o, ok, rfl, hr⟩ := HF
 replace hs := hs.frame hc
 refine dM rfl rfl (dO rfl rfl rfl (dO rfl rfl rfl (dO rfl rfl rfl (lp (aR fo_30_7 rfl) rfl (aJ (dQ 0 hs k_9 rfl rfl rfl rfl rfl rfl rfl (fun w hs => dN rfl rfl (dN rfl rfl (aH ⟨ok, o, w16 l n, out, dB rfl rfl rfl rfl rfl rfl, hs, ?_, ?_⟩)))))))))
 cases ok
 rw [hr.bad.2.2]; exact Nat.zero_le _
 have := (name_some hr.ok).2.2; omega
 cases ok
 exact .inr ⟨rfl, by simp only [body, rd16_yes hw, Option.bind_some, hr.bad.1, Option.bind_none]⟩
 exact .inl ⟨rfl, hw, rfl, hr.ok⟩
 subst hc12
 obtain ⟨hw, rfl, rfl⟩ := words1f hws
 refine aW ?_
 exact ⟨false, _, 0, [], dB rfl rfl rfl rfl rfl rfl, hs, by omega, .inr ⟨rfl, by simp only [body, rd16_no hw, Option.bind_none]⟩⟩
 · clear hs
   rintro ρ w ⟨ok, o0, n1, host, hsub, hs, hol, hst⟩
   refine EW.weaken hsub (aF (bQ ?_))
   refine dC (fun g : Nat × Bool × List fU × List Value × Value × Vw × Nat => tyE (.slice a l.length cap) b8 b10 g.1 (n + len) g.2.1) (fun g w' => Sl 25 2 ⟨w0, V, g.2.2.2.2.2.1⟩ w' [(b10, .cells (eY { kind := 12, n1 := n1, host := host } (.slice none 0 0) (.slice none 0 0) g.2.2.2.2.1).toArray 30 (0, 0)), (b8, .cells zz.toArray 30 (0, 0))] g.2.2.2.2.1 g.2.2.2.2.2.2 g.2.2.2.1 ∧ V1.le g.2.2.2.2.2.1 ∧ (g.2.1 = true → ok = true ∧ Rows 2 (RPair g.2.2.2.2.2.1) g.2.2.1 g.2.2.2.1 ∧ g.2.2.2.2.2.2 = g.2.2.1.length ∧ parsS l g.1 (n + len) g.2.2.1 = parsS l o0 (n + len) [] ∧ 4 * g.2.2.2.2.2.2 + o0 ≤ g.1) ∧ (g.2.1 = false → body l n 12 len = none) ∧ g.1 ≤ n + len + l.length + 65540) (fun g => if g.2.1 = true then (n + len - g.1) + 1 else 0) (o0, ok, [], [], .slice none 0 0, V1, 0) (dB rfl rfl rfl rfl rfl rfl) ⟨Sl.nil hs, V1.le_refl, fun h => ⟨h, rfl, rfl, rfl, by simp⟩, fun h => by
    rcases hst with ⟨h1, _⟩ | ⟨_, h1⟩
    simp only at h; rw [h1] at h; cases h
    exact h1, by simp only; omega⟩ ?_
   clear hs
   rintro ⟨i, okl, acc, xs, sv, Vc, m⟩ w ⟨hsl, hlev, hgood, hbad, hi⟩
   simp only at hsl hlev hgood hbad hi ⊢
   obtain ⟨sa, scap, rfl⟩ := hsl.size
   refine aF (dG (fun ρ w => Sub (eH (tyE (.slice a l.length cap) b8 b10 i (n + len) okl) 275 (.bool (okl && decide (i < n + len)))) ρ ∧ Sl 25 2 ⟨w0, V, Vc⟩ w [(b10, .cells (eY { kind := 12, n1 := n1, host := host } (.slice none 0 0) (.slice none 0 0) (.slice sa m scap)).toArray 30 (0, 0)), (b8, .cells zz.toArray 30 (0, 0))] (.slice sa m scap) m xs) ?_ ?_)
   cases okl
   have hg : false = !true := rfl
   refine aB (dM rfl rfl (dM rfl rfl (aU rfl rfl hg rfl (aU rfl rfl hg rfl (aU rfl rfl hg rfl (lp (bW rfl rfl rfl) rfl (aH ?_)))))))
   exact ⟨aL rfl (dB rfl rfl rfl rfl rfl rfl), hsl⟩
   have hg : true = true := rfl
   refine aB (dM rfl rfl (dM rfl rfl (lg rfl rfl hg (aC rfl) rfl (lg rfl rfl hg (aC rfl) rfl (lg rfl rfl hg (cY rfl rfl) rfl (lp (bO rfl rfl rfl) rfl (aH ?_)))))))
   have hval : decide ((i : Int) < ((n + len : Nat) : Int)) = (true && decide (i < n + len)) := by rw [Bool.true_and]; exact decide_eq_decide.2 (by omega)
   exact ⟨aL (congrArg (fun t => some (Value.bool t)) hval) (dB rfl rfl rfl rfl rfl rfl), hsl⟩
   · clear hsl
     rintro ρ w ⟨hsub, hsl⟩
     refine EW.weaken hsub (bJ rfl (fun hc13 => ?_) (fun hc13 => ?_))
     · refine aW (bQ (aF ?_))
       obtain ⟨rfl, hlt⟩ : okl = true ∧ i < n + len := by simpa using hc13
       obtain ⟨hok, hrows, hm, hp, h4⟩ := hgood rfl
       have ho0 : n ≤ o0 := by
        rcases hst with ⟨_, _, _, h⟩ | ⟨h, _⟩
        have := name_lt h; omega
        rw [hok] at h; cases h
       have hle := hsl.st.view
       replace hb := hb.mono hlev
       obtain ⟨X, hX, hs⟩ := hsl.open
       refine aB (lp (bM (vs := []) (ps := []) rfl bz_25) rfl (aJ (aX hs z_25 rfl (fun b18 w hb18 he18 hs => aJ (dR 0 hs k_25 rfl rfl rfl (by simp) (by simp) (aG (by decide +kernel)) rfl (fun w hs => dN rfl rfl (aH (dP (dM rfl rfl (dM rfl rfl (aZ ok_174 rfl rfl (c_two hs.isIn hb i rfl (by omega) (by omega)) rfl (fun v280 w HF => ?_))))))))))))
       obtain ⟨hc, x, o1, ok1, rfl, hr⟩ := HF
       replace hs := hs.frame hc
       have hxl := R16.lt hr
       refine dM rfl rfl (dO rfl rfl rfl (dO rfl rfl rfl (dO rfl rfl rfl (lp (aR fo_25_0 rfl) rfl (aJ (dQ 0 hs eS rfl rfl rfl rfl rfl rfl rfl (fun w hs => dN rfl rfl (dN rfl rfl (aH (dG (fun ρ w => ∃ (ok2 : Bool) (o nn : Nat), Sub (eH (eH (tyE (.slice a l.length cap) b8 b10 o (n + len) ok2) 19 (.int .u16 nn)) 18 (.pointer (some ⟨b18, 0, none⟩))) ρ ∧ St ⟨w0, V, Vc⟩ w ([(b18, .cells [Value.int .u16 (x : Nat), .slice none 0 0].toArray 25 (0, 0)), (b10, .cells (eY { kind := 12, n1 := n1, host := host } (.slice none 0 0) (.slice none 0 0) (.slice sa m scap)).toArray 30 (0, 0)), (b8, .cells zz.toArray 30 (0, 0))] ++ X) ∧ nn ≤ 65535 ∧ o ≤ i + 4 ∧ ((ok2 = true ∧ i + 4 ≤ l.length ∧ o = i + 4 ∧ nn = w16 l (i + 2) ∧ x = w16 l i) ∨ (ok2 = false ∧ l.length < i + 4))) ?_ ?_))))))))))
       refine dP (dM rfl rfl (aH (bJ rfl (fun hc14 => ?_) (fun hc14 => ?_))))
       subst hc14
       obtain ⟨_, rfl, rfl, hl1⟩ := hr.okB
       refine aB (dM rfl rfl (dM rfl rfl (aZ ok_174 rfl rfl (c_two hs.isIn hb (i + 2) rfl (by omega) (by omega)) rfl (fun v289 w HF => ?_))))
       obtain ⟨hc, y, o2, ok2, rfl, hr2⟩ := HF
       replace hs := hs.frame hc
       have hyl := R16.lt hr2
       refine dM rfl rfl (dO rfl rfl rfl (dO rfl rfl rfl (dO rfl rfl rfl (dN rfl rfl (dN rfl rfl (dN rfl rfl (aH ⟨ok2, o2, y, aL rfl (aL rfl (dB rfl rfl rfl rfl rfl rfl)), hs, by omega, by omega, ?_⟩)))))))
       cases ok2
       exact .inr ⟨rfl, by have := hr2.badB.2.1; omega⟩
       obtain ⟨_, rfl, rfl, hl2⟩ := hr2.okB
       exact .inl ⟨rfl, by omega, rfl, rfl, rfl⟩
       subst hc14
       refine aW ?_
       exact ⟨false, o1, 0, aL rfl (aL rfl (dB rfl rfl rfl rfl rfl rfl)), hs, by decide, by omega, .inr ⟨rfl, by have := hr.badB.2.1; omega⟩⟩
       · clear hs
         rintro ρ w ⟨ok2, o, nn, hsub, hs, hnn, hoi, h2s⟩
         refine EW.weaken hsub (dG (fun ρ w => Sub (eH (eH (tyE (.slice a l.length cap) b8 b10 o (n + len) (ok2 && !(decide (0 < m) && decide (x = 0)))) 19 (.int .u16 nn)) 18 (.pointer (some ⟨b18, 0, none⟩))) ρ ∧ St ⟨w0, V, Vc⟩ w ([(b18, .cells [Value.int .u16 (x : Nat), .slice none 0 0].toArray 25 (0, 0)), (b10, .cells (eY { kind := 12, n1 := n1, host := host } (.slice none 0 0) (.slice none 0 0) (.slice sa m scap)).toArray 30 (0, 0)), (b8, .cells zz.toArray 30 (0, 0))] ++ X)) ?_ ?_)
         · refine dG (fun ρ w => Sub (eH (eH (eH (tyE (.slice a l.length cap) b8 b10 o (n + len) ok2) 304 (.bool (ok2 && (decide (0 < m) && decide (x = 0))))) 19 (.int .u16 nn)) 18 (.pointer (some ⟨b18, 0, none⟩))) ρ ∧ St ⟨w0, V, Vc⟩ w ([(b18, .cells [Value.int .u16 (x : Nat), .slice none 0 0].toArray 25 (0, 0)), (b10, .cells (eY { kind := 12, n1 := n1, host := host } (.slice none 0 0) (.slice none 0 0) (.slice sa m scap)).toArray 30 (0, 0)), (b8, .cells zz.toArray 30 (0, 0))] ++ X)) ?_ ?_
           · obtain ⟨hm0, hh⟩ | ⟨hm0, hh⟩ | ⟨hm0, hh⟩ : (ok2 = false ∧ True) ∨ (ok2 = true ∧ m = 0) ∨ (ok2 = true ∧ 0 < m) := by cases ok2 <;> simp <;> omega
             all_goals subst hm0
             refine aB (dM rfl rfl (dM rfl rfl (aU rfl rfl rfl rfl (aU rfl rfl rfl rfl (aU rfl rfl rfl rfl (aU rfl rfl rfl rfl (lp (bW rfl rfl rfl) rfl (dM rfl rfl (aU rfl rfl rfl rfl (aU rfl rfl rfl rfl (aU rfl rfl rfl rfl (lp (bW rfl rfl rfl) rfl (aH ?_)))))))))))))
             exact ⟨aL rfl (aL rfl (aL rfl (dB rfl rfl rfl rfl rfl rfl))), hs⟩
             have hga : decide (((0 : Int) : Int) < (m : Int)) = false := decide_eq_false (by omega)
             refine aB (dM rfl rfl (dM rfl rfl (lg rfl rfl rfl (bD fo_30_15 rfl) rfl (lg rfl rfl rfl (aO rfl (aQ k_26 (hs.g 1 rfl) rfl)) rfl (lg rfl rfl rfl (bC Tryz.underlying26 rfl) rfl (lg rfl rfl rfl (cQ rfl rfl) rfl (lp (bO rfl rfl rfl) rfl (dM rfl rfl (aU rfl rfl hga rfl (aU rfl rfl hga rfl (aU rfl rfl hga rfl (lp (bW rfl hga rfl) rfl (aH ?_)))))))))))))
             have hval : (false : Bool) = (true && (decide (0 < m) && decide (x = 0))) := by rw [hh]; rfl
             exact ⟨aL rfl (aL rfl (aL (congrArg (fun t => some (Value.bool t)) hval) (dB rfl rfl rfl rfl rfl rfl))), hs⟩
             have hga : decide (((0 : Int) : Int) < (m : Int)) = true := decide_eq_true (by omega)
             refine aB (dM rfl rfl (dM rfl rfl (lg rfl rfl rfl (bD fo_30_15 rfl) rfl (lg rfl rfl rfl (aO rfl (aQ k_26 (hs.g 1 rfl) rfl)) rfl (lg rfl rfl rfl (bC Tryz.underlying26 rfl) rfl (lg rfl rfl rfl (cQ rfl rfl) rfl (lp (bO rfl rfl rfl) rfl (dM rfl rfl (lg rfl rfl hga (aR fo_25_0 rfl) rfl (lg rfl rfl hga (aO rfl (aQ eS (hs.g 0 rfl) rfl)) rfl (lg rfl rfl hga (bI rfl rfl) rfl (lp (bO rfl hga rfl) rfl (aH ?_)))))))))))))
             have hval : decide (((x : Nat) : Int) = 0) = (true && (decide (0 < m) && decide (x = 0))) := by rw [Bool.true_and, decide_eq_true hh, Bool.true_and]; exact decide_eq_decide.2 (by omega)
             exact ⟨aL rfl (aL rfl (aL (congrArg (fun t => some (Value.bool t)) hval) (dB rfl rfl rfl rfl rfl rfl))), hs⟩
           clear hs
           rintro ρ w ⟨hsub, hs⟩
           refine EW.weaken hsub (bJ rfl (fun hc15 => ?_) (fun hc15 => ?_))
           refine aB (dN rfl rfl (aH ?_))
           have hval : (false : Bool) = (ok2 && !(decide (0 < m) && decide (x = 0))) := by revert hc15; cases ok2 <;> cases decide (0 < m) <;> cases decide (x = 0) <;> simp
           exact ⟨aL rfl (aL rfl (dB rfl rfl rfl rfl (congrArg (fun t => some (Value.bool t)) hval) rfl)), hs⟩
           refine aW ?_
           have hval : ok2 = (ok2 && !(decide (0 < m) && decide (x = 0))) := by revert hc15; cases ok2 <;> cases decide (0 < m) <;> cases decide (x = 0) <;> simp
           exact ⟨aL rfl (aL rfl (dB rfl rfl rfl rfl (congrArg (fun t => some (Value.bool t)) hval) rfl)), hs⟩
         clear hs
         rintro ρ w ⟨hsub, hs⟩
         refine EW.weaken hsub ?_
         obtain ⟨okc, hokc⟩ : ∃ okc, okc = (ok2 && !(decide (0 < m) && decide (x = 0))) := ⟨_, rfl⟩
         rw [← hokc]
         refine dG (fun ρ w => ∃ (V2 : Vw) (bv : Value) (ok3 : Bool), Sub (eH (eH (tyE (.slice a l.length cap) b8 b10 o (n + len) ok3) 19 (.int .u16 nn)) 18 (.pointer (some ⟨b18, 0, none⟩))) ρ ∧ Vc.le V2 ∧ St ⟨w0, V, V2⟩ w ([(b18, .cells [Value.int .u16 (x : Nat), bv].toArray 25 (0, 0)), (b10, .cells (eY { kind := 12, n1 := n1, host := host } (.slice none 0 0) (.slice none 0 0) (.slice sa m scap)).toArray 30 (0, 0)), (b8, .cells zz.toArray 30 (0, 0))] ++ X) ∧ bv.oneCell' = true ∧ ((ok3 = true ∧ okc = true ∧ o + nn ≤ l.length ∧ RB V2 bv (seg l o nn)) ∨ (ok3 = false ∧ (okc = true → l.length < o + nn)))) ?_ ?_
         refine dP (dM rfl rfl (aH (bJ rfl (fun hc16 => ?_) (fun hc16 => ?_))))
         obtain rfl : okc = true := hc16
         refine aB (dM rfl rfl (dM rfl rfl (dM rfl rfl (lp (bY Tryz.underlying22 Tryz.underlying3 rfl (fV (c := nn) rfl (by omega))) rfl (aZ ok_181 rfl rfl (c_bytesAt hs.isIn hb o nn rfl rfl (by omega) (by omega) (by omega)) rfl (fun v311 w HF => ?_))))))
         obtain ⟨V2, bv, ok3, rfl, hc, hrb⟩ := HF
         have hle2 := hc.view
         replace hs := hs.frame hc
         refine dM rfl rfl (dO rfl rfl rfl (dO rfl rfl rfl (lp (aR fo_25_1 rfl) rfl (aJ (dQ 0 hs k_23 rfl rfl rfl hrb.oneCell rfl rfl rfl (fun w hs => dN rfl rfl (aH ⟨V2, bv, ok3, aL rfl (aL rfl (dB rfl rfl rfl rfl rfl rfl)), hle2, hs, hrb.oneCell, ?_⟩)))))))
         cases ok3
         exact .inr ⟨rfl, fun _ => hrb.badB.1⟩
         exact .inl ⟨rfl, rfl, hrb.okB.1, hrb.okB.2⟩
         obtain rfl : okc = false := hc16
         refine aW ?_
         exact ⟨Vc, .slice none 0 0, false, aL rfl (aL rfl (dB rfl rfl rfl rfl rfl rfl)), Vc.le_refl, hs, rfl, .inr ⟨rfl, fun h => by cases h⟩⟩
         clear hs
         rintro ρ w ⟨V2, bv, ok3, hsub, hle2, hs, hbv1, h3s⟩
         refine EW.weaken hsub (dP (dM rfl rfl (dM rfl rfl (lp (bY Tryz.underlying22 Tryz.underlying3 rfl (fV (c := nn) rfl (by omega))) rfl (lp (bN rfl rfl (fV (c := o + nn) (by omega) (by omega))) rfl (dN rfl rfl (aH (aB (lp (aR fo_30_15 rfl) rfl (lp (aO rfl (aQ k_26 (hs.g 1 rfl) rfl)) rfl (lp (aO rfl (aP k_25 (hs.g 0 rfl) (by simp))) rfl (l_app1 (cl := [.int .u16 (x : Nat), bv]) el_26 (SlX.close (L := [_, _, _]) hX hs) (fun _ => rfl) rfl rfl rfl (bX rfl (bX hbv1 eQ)) (by omega) (by omega) (by omega) rfl rfl (fun b322 sv' w hs => ?_)))))))))))))
         have hone := hs.oneCell
         obtain ⟨X2, hX2, hs⟩ := (hs.drop hb18).open
         skip
         refine lp (aR fo_30_15 rfl) rfl (aJ (dQ 0 hs k_26 rfl rfl rfl hone rfl rfl rfl (fun w hs => aH ?_)))
         have hokc' : okc = true ↔ ok2 = true ∧ ¬ (acc ≠ [] ∧ x = 0) := by
          have hma : 0 < m ↔ acc ≠ [] := by rw [hm]; exact List.length_pos_iff
          rw [hokc]
          simp only [Bool.and_eq_true, Bool.not_eq_true', Bool.and_eq_false_iff, decide_eq_false_iff_not, hma]
          constructor
          rintro ⟨h1, h2⟩; exact ⟨h1, fun ⟨q1, q2⟩ => by rcases h2 with h2 | h2; exact h2 q1; exact h2 q2⟩
          rintro ⟨h1, h2⟩; exact ⟨h1, by by_cases q : acc ≠ []; exact .inr fun q2 => h2 ⟨q, q2⟩; exact .inl q⟩
         refine ⟨(o + nn, ok3, acc ++ [⟨x, seg l o nn⟩], _, sv', V2, m + 1), dB rfl rfl rfl rfl rfl rfl, ⟨SlX.close (L := [_, _]) hX2 hs, Vw.le_trans hlev hle2, fun hk => ?_, fun hk => ?_, by simp only; omega⟩, ?_⟩
         simp only at hk; subst hk
         obtain ⟨_, hk2, hfit, hRB⟩ : true = true ∧ okc = true ∧ o + nn ≤ l.length ∧ RB V2 bv (seg l o nn) := by
          rcases h3s with h | ⟨h, _⟩
          exact h
          cases h
         obtain ⟨hk3, hnz⟩ := hokc'.1 hk2
         obtain ⟨_, hl4, rfl, rfl, rfl⟩ : true = true ∧ i + 4 ≤ l.length ∧ o = i + 4 ∧ nn = w16 l (i + 2) ∧ x = w16 l i := by
          rcases h2s with ⟨_, h⟩ | ⟨h, _⟩
          exact ⟨rfl, h⟩
          rw [h] at hk3; cases hk3
         refine ⟨hok, Rows.snoc (hrows.mono fun _ _ h => h.mono hle2) ⟨bv, rfl, hRB⟩ rfl, by simp [hm], ?_, by simp only; omega⟩
         rw [← hp]
         conv => rhs; rw [parsS, dif_pos hlt, if_pos ⟨hl4, hfit, hnz⟩]
         simp only at hk; subst hk
         obtain ⟨_, hw2, rfl, hname⟩ : true = true ∧ n + 2 ≤ l.length ∧ n1 = w16 l n ∧ name l (n + 2) = some (host, o0) := by
          rcases hst with ⟨_, h⟩ | ⟨h, _⟩
          exact ⟨rfl, h⟩
          rw [hok] at h; cases h
         have hno : parsS l i (n + len) acc = none := by
          rw [parsS, dif_pos hlt, if_neg]
          rintro ⟨q1, q2, q3⟩
          rcases h3s with ⟨h, _⟩ | ⟨_, h⟩
          cases h
          rcases h2s with ⟨h1, _, rfl, rfl, rfl⟩ | ⟨_, h1⟩
          have := h (hokc'.2 ⟨h1, q3⟩); omega
          omega
         rw [hp] at hno
         simp only [body, rd16_yes hw2, Option.bind_some, hname, hno, Option.map_none]
         simp only
         rw [if_pos trivial]
         split
         rename_i hk
         rcases h3s with ⟨_, hk2, _⟩ | ⟨h, _⟩
         rcases h2s with ⟨_, _, rfl, _⟩ | ⟨h, _⟩
         omega
         have := (hokc'.1 hk2).1; rw [h] at this; cases this
         rw [h] at hk; cases hk
         omega
     refine eT ?_
     cases okl
     have hg : false = !true := rfl
     refine aB (dM rfl rfl (dM rfl rfl (aU rfl rfl hg rfl (aU rfl rfl hg rfl (aU rfl rfl hg rfl (lp (bW rfl rfl rfl) rfl (dN rfl rfl (aH (aF (dP (dM rfl rfl (lp (cS rfl) rfl (aH ?_)))))))))))))
     refine cO rfl rfl (aF ?_)
     have hs := hsl.st
     refine aB (lp (bM (vs := []) (ps := []) rfl bz_30) rfl (aJ (dR 1 hs eJ rfl rfl rfl rfl hzl (aG rfl) rfl (fun w hs => dN rfl rfl (aH (aV ⟨_, fX ⟨_, rfl, aP eJ (hs.g 1 rfl) rfl⟩ rfl, ?_⟩))))))
     exact ⟨Vc, _, false, rfl, (hs.drop hb10).drop hb8, rfl, aG rfl, .inr ⟨rfl, hbad rfl⟩⟩
     have hg : true = true := rfl
     refine aB (dM rfl rfl (dM rfl rfl (lg rfl rfl hg (aC rfl) rfl (lg rfl rfl hg (aC rfl) rfl (lg rfl rfl hg (bI rfl rfl) rfl (lp (bO rfl rfl rfl) rfl (dN rfl rfl (aH (aF (dP (dM rfl rfl (lp (cS rfl) rfl (aH ?_)))))))))))))
     refine bJ rfl (fun hc18 => ?_) (fun hc18 => ?_)
     refine aF ?_
     have hs := hsl.st
     refine aB (lp (bM (vs := []) (ps := []) rfl bz_30) rfl (aJ (dR 1 hs eJ rfl rfl rfl rfl hzl (aG rfl) rfl (fun w hs => dN rfl rfl (aH (aV ⟨_, fX ⟨_, rfl, aP eJ (hs.g 1 rfl) rfl⟩ rfl, ?_⟩))))))
     have hno : body l n 12 len = none := by
      obtain ⟨hok, hrows, hm, hp, h4⟩ := hgood rfl
      obtain ⟨_, hw2, rfl, hname⟩ : true = true ∧ n + 2 ≤ l.length ∧ n1 = w16 l n ∧ name l (n + 2) = some (host, o0) := by
       rcases hst with ⟨_, h⟩ | ⟨h, _⟩
       exact ⟨rfl, h⟩
       rw [hok] at h; cases h
      have h1 := hc18
      have h2 := hc13
      simp at h1 h2
      have hz : parsS l i (n + len) acc = none := parsS_over (by omega)
      rw [hp] at hz
      simp only [body, rd16_yes hw2, Option.bind_some, hname, hz, Option.map_none]
     exact ⟨Vc, _, false, rfl, (hs.drop hb10).drop hb8, rfl, aG rfl, .inr ⟨rfl, hno⟩⟩
     refine aW (aF ?_)
     obtain rfl : i = n + len := by have h := hc18; simp at h; omega
     obtain ⟨hok, hrows, hm, hp, h4⟩ := hgood rfl
     subst hm
     obtain ⟨_, hw2, rfl, hname⟩ : true = true ∧ n + 2 ≤ l.length ∧ n1 = w16 l n ∧ name l (n + 2) = some (host, o0) := by
      rcases hst with ⟨_, h⟩ | ⟨h, _⟩
      exact ⟨rfl, h⟩
      rw [hok] at h; cases h
     obtain ⟨V', hle', hsv, hs⟩ := hsl.give
     have hT : eV V' (.slice sa acc.length scap) acc := ⟨xs, hsv, hrows.mono fun _ _ h => h.mono hle'⟩
     have hRR : RRec V' { kind := 12, n1 := w16 l n, host := host, pairs := acc } (eY { kind := 12, n1 := w16 l n, host := host } (.slice none 0 0) (.slice none 0 0) (.slice sa acc.length scap)) := ⟨_, _, _, rfl, RB.nil V', fF.nil V', hT⟩
     refine aB (lp (aO rfl (aP eJ (hs.g 0 rfl) hRR.flat.2)) rfl (aJ (dR 1 hs eJ rfl rfl rfl hRR.flat.2 hzl hRR.flat.1 rfl (fun w hs => dN rfl rfl (aH (aV ⟨_, fX ⟨_, rfl, aP eJ (hs.g 1 rfl) hRR.flat.2⟩ rfl, ?_⟩))))))
     exact ⟨V', _, true, rfl, (hs.drop hb10).drop hb8, hRR.flat.2, hRR.flat.1, .inl ⟨rfl, _, by simp only [body, rd16_yes hw2, Option.bind_some, hname]; rw [← hp, parsS, dif_neg (by omega), if_pos rfl]; rfl, hRR⟩⟩
end
end Go.Proofs.YtgpfjlfkaoffeaaGreatDoor

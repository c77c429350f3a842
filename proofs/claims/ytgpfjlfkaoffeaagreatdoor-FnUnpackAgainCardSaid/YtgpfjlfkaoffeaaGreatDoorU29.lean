/- The reference: the body of a zone's beginning. The reference: the body of texts. The reference: the body of options. -/
import Derived.Test.YtgpfjlfkaoffeaaGreatDoorU28
set_option linter.all false
namespace Go.Proofs.YtgpfjlfkaoffeaaGreatDoor
open Go
def foursS (l : List UInt8) : Bool → Nat → List Nat → List Value → Bool × Nat × List Value
 | ok, n, [], cs => (ok, n, cs)
 | true, n, q :: qs, cs => if n + 4 ≤ l.length then foursS l true (n + 4) qs (cs.set q (.int .u32 (w32 l n))) else foursS l false n qs (cs.set q (.int .u32 (0 : Nat)))
 | false, n, _ :: qs, cs => foursS l false n qs cs
theorem fours_false {l : List UInt8} {n : Nat} : ∀ (qs : List Nat) (cs : List Value), foursS l false n qs cs = (false, n, cs)
 | [], cs => rfl
 | _ :: qs, cs => by rw [foursS]; exact fours_false qs cs
theorem rd32_yes {l : List UInt8} {n : Nat} (h : n + 4 ≤ l.length) : rd32 l n = some (w32 l n) := by unfold rd32; rw [if_pos h]
theorem fours5 {l : List UInt8} {n o q1 q2 q3 q4 q5 : Nat} {cs cs' : List Value} {ok : Bool} (h : foursS l true n [q1, q2, q3, q4, q5] cs = (ok, o, cs')) :
  (ok = true → n + 20 ≤ l.length ∧ cs' = ((((cs.set q1 (.int .u32 (w32 l n))).set q2 (.int .u32 (w32 l (n + 4)))).set q3 (.int .u32 (w32 l (n + 8)))).set q4 (.int .u32 (w32 l (n + 12)))).set q5 (.int .u32 (w32 l (n + 16)))) ∧ (ok = false → l.length < n + 20) := by
 by_cases h5 : n + 20 ≤ l.length
 rw [foursS, if_pos (by omega), foursS, if_pos (by omega), foursS, if_pos (by omega), foursS, if_pos (by omega), foursS, if_pos (by omega), foursS] at h
 cases h
 exact ⟨fun _ => ⟨h5, rfl⟩, fun h => by cases h⟩
 refine ⟨fun hk => ?_, fun _ => by omega⟩
 subst hk
 exfalso
 rw [foursS] at h
 split at h
 rw [foursS] at h
 split at h
 rw [foursS] at h
 split at h
 rw [foursS] at h
 split at h
 rw [foursS] at h
 split at h
 omega
 rw [fours_false] at h; cases h
 rw [fours_false] at h; cases h
 rw [fours_false] at h; cases h
 rw [fours_false] at h; cases h
 rw [fours_false] at h; cases h
theorem soa_none {l : List UInt8} {n o1 o len : Nat} {h x : List UInt8} (h1 : name l n = some (h, o1)) (h2 : name l o1 = some (x, o)) (h3 : l.length < o + 20) : body l n 4 len = none := by
 simp only [body, h1, h2, Option.bind_some]
 unfold rd32
 split <;> first | rfl | (simp only [Option.bind_some]; split <;> first | rfl | (simp only [Option.bind_some]; split <;> first | rfl | (simp only [Option.bind_some]; split <;> first | rfl | (simp only [Option.bind_some]; rw [if_neg (by omega)]; rfl))))
section
variable {V : Vw} {w0 : World} {l : List UInt8} {mv : Value} {off : Int}
def soE (mv : Value) (b8 b10 b128 o j : Nat) (ok : Bool) : Env :=
 eH (eH (eH (eH (eH (eH (eH (eH emp 130 (.int .i64 j)) 129 (.int .i64 (5 : Nat))) 128 (.slice (some ⟨b128, 0, none⟩) 5 5)) 11 (.bool ok)) 10 (.pointer (some ⟨b10, 0, none⟩))) 8 (.pointer (some ⟨b8, 0, none⟩))) 1 (.int .i64 o)) 0 mv
theorem soE_sub {mv : Value} {b8 b10 b128 o j : Nat} {ok : Bool} {ρ : Env} (h0 : ρ 0 = some mv) (h1 : ρ 1 = some (.int .i64 o)) (h8 : ρ 8 = some (.pointer (some ⟨b8, 0, none⟩))) (h10 : ρ 10 = some (.pointer (some ⟨b10, 0, none⟩))) (h11 : ρ 11 = some (.bool ok))
  (h128 : ρ 128 = some (.slice (some ⟨b128, 0, none⟩) 5 5)) (h129 : ρ 129 = some (.int .i64 (5 : Nat))) (h130 : ρ 130 = some (.int .i64 j)) : Sub (soE mv b8 b10 b128 o j ok) ρ :=
 aL h0 (aL h1 (aL h8 (aL h10 (aL h11 (aL h128 (aL h129 (aL h130 (bG _))))))))
theorem soa_ptr {b j : Nat} (h : j < 5) : ([9, 10, 11, 12, 13].map fun q => Value.pointer (some ⟨b, q, none⟩))[j]? = some (.pointer (some ⟨b, 9 + j, none⟩)) := by
 rcases (by omega : j = 0 ∨ j = 1 ∨ j = 2 ∨ j = 3 ∨ j = 4) with rfl | rfl | rfl | rfl | rfl <;> rfl
theorem soa_drop {j : Nat} (h : j < 5) : [9, 10, 11, 12, 13].drop j = (9 + j) :: [9, 10, 11, 12, 13].drop (j + 1) := by
 rcases (by omega : j = 0 ∨ j = 1 ∨ j = 2 ∨ j = 3 ∨ j = 4) with rfl | rfl | rfl | rfl | rfl <;> rfl
set_option maxHeartbeats 4000000 in
theorem c_Body4 (hV : V.In w0) (hb : RB V mv l) (n : Nat) (hn : off = n) (len : Nat) {lv : Int} (hlv : lv = len) (h1 : n ≤ 1152921504606746970) (hlen : len ≤ 65536) (h2 : l.length ≤ 4294967296) :
  eC Tryz.prog 126 #[mv, .int .i64 off, .int .i64 4, .int .i64 lv] w0 fun v w' => ∃ (V' : Vw) (rc : List Value) (ok : Bool), v = .tuple #[.agg rc.toArray, .bool ok] ∧ St ⟨w0, V, V'⟩ w' [] ∧ SBody V' l n 4 len ok rc := by
 subst hn hlv
 obtain ⟨a, cap, rfl, hcap, ha⟩ := hb.form
 have hs := St.start hV
 refine aT [_, _, _, _] Tryz.func126 Tryz.ntmps126 Tryz.results126 rfl rfl (dP (aJ (aX hs z_30 rfl (fun b8 w hb8 he8 hs => dN rfl rfl (aH (dP (dM rfl rfl (lp (bL rfl (by rfl) (bu_30_5 _)) rfl (aJ (aX hs z_30 rfl (fun b10 w hb10 he10 hs => aJ (dR 0 hs eJ rfl rfl rfl (by simp) (by simp) (aG (by decide +kernel)) rfl (fun w hs => ?_)))))))))))))
 obtain ⟨zz, hzl, hs⟩ : ∃ zz : List Value, zz.length = 16 ∧ St ⟨w0, V, V⟩ w [(b10, .cells (eY { kind := 4 } (.slice none 0 0) (.slice none 0 0) (.slice none 0 0)).toArray 30 (0, 0)), (b8, .cells zz.toArray 30 (0, 0))] := ⟨_, rfl, hs⟩
 refine aH (dP (dN rfl rfl (aH (dP (dM rfl rfl (dM rfl rfl (lp (bN rfl rfl (i64w (by omega))) rfl (dN rfl rfl (aH (aF (dP (dM rfl rfl (aH ?_)))))))))))))
 refine bQ (dP (lp (bI rfl rfl) rfl (dN rfl rfl (aH (aY rfl rfl (dP (lp (bI rfl rfl) rfl (dN rfl rfl (aH (aY rfl rfl (aF (dP (lp (bI rfl rfl) rfl ?_)))))))))))))
 refine dN rfl rfl (aH (aY rfl rfl (dP (lp (bI rfl rfl) rfl (dN rfl rfl (aH (aY rfl rfl (aB (lp (bI rfl rfl) rfl (dN rfl rfl (aH (aY rfl rfl (dP ?_)))))))))))))
 refine lp (bI rfl rfl) rfl (dN rfl rfl (aH (aY rfl rfl (dP (lp (bI rfl rfl) rfl (dN rfl rfl (aH (aY rfl rfl (dP (lp (bI rfl rfl) rfl (dN rfl rfl (aH (cO rfl rfl ?_)))))))))))))
 refine dP (dM rfl rfl (dM rfl rfl (aZ ok_182 rfl rfl (c_Name hs.isIn hb n rfl (by omega) (by omega)) rfl (fun v109 w HF => ?_))))
 obtain ⟨hc, ho, o1, ok1, rfl, hr⟩ := HF
 replace hs := hs.frame hc
 refine dM rfl rfl (dO rfl rfl rfl (dO rfl rfl rfl (dO rfl rfl rfl (lp (aR fo_30_7 rfl) rfl (aJ (dQ 0 hs k_9 rfl rfl rfl rfl rfl rfl rfl (fun w hs => dN rfl rfl (dN rfl rfl (aH (dG (fun ρ w => ∃ (ok : Bool) (o : Nat) (h x : List UInt8), Sub (eH (eH (eH (eH (eH emp 11 (.bool ok)) 10 (.pointer (some ⟨b10, 0, none⟩))) 8 (.pointer (some ⟨b8, 0, none⟩))) 1 (.int .i64 o)) 0 (.slice a l.length cap)) ρ ∧ St ⟨w0, V, V⟩ w [(b10, .cells (eY { kind := 4, host := h, box := x } (.slice none 0 0) (.slice none 0 0) (.slice none 0 0)).toArray 30 (0, 0)), (b8, .cells zz.toArray 30 (0, 0))] ∧ o ≤ l.length ∧ ((ok = true ∧ ∃ o1, name l n = some (h, o1) ∧ name l o1 = some (x, o)) ∨ (ok = false ∧ body l n 4 len = none))) ?_ ?_))))))))))
 refine dP (dM rfl rfl (aH (bJ rfl (fun hc8 => ?_) (fun hc8 => ?_))))
 subst hc8
 have hname := hr.ok
 have hol := (name_some hname).2.2
 refine aB (dM rfl rfl (dM rfl rfl (aZ ok_182 rfl rfl (c_Name hs.isIn hb o1 rfl (by omega) (by omega)) rfl (fun v118 w HF => ?_))))
 obtain ⟨hc, xo, o2, ok2, rfl, hr2⟩ := HF
 replace hs := hs.frame hc
 refine dM rfl rfl (dO rfl rfl rfl (dO rfl rfl rfl (dO rfl rfl rfl (lp (aR fo_30_8 rfl) rfl (aJ (dQ 0 hs k_9 rfl rfl rfl rfl rfl rfl rfl (fun w hs => dN rfl rfl (dN rfl rfl (aH ⟨ok2, o2, ho, xo, aL rfl (aL rfl (aL rfl (aL rfl (aL rfl (bG _))))), hs, ?_, ?_⟩)))))))))
 cases ok2
 rw [hr2.bad.2.2]; exact Nat.zero_le _
 exact (name_some hr2.ok).2.2
 cases ok2
 exact .inr ⟨rfl, by simp only [body, hname, Option.bind_some, hr2.bad.1, Option.bind_none]⟩
 exact .inl ⟨rfl, o1, hname, hr2.ok⟩
 subst hc8
 refine aW ?_
 exact ⟨false, o1, ho, [], aL rfl (aL rfl (aL rfl (aL rfl (aL rfl (bG _))))), hs, by rw [hr.bad.2.2]; exact Nat.zero_le _, .inr ⟨rfl, by simp only [body, hr.bad.1, Option.bind_none]⟩⟩
 clear hs
 rintro ρ w ⟨ok, o, h, x, hsub, hs, hol, hst⟩
 refine EW.weaken hsub (dP (lp (aR fo_30_9 rfl) rfl (lp (aR fo_30_10 rfl) rfl (lp (aR fo_30_11 rfl) rfl (lp (aR fo_30_12 rfl) rfl (lp (aR fo_30_13 rfl) rfl (aJ (o_bslice (vls := [[.pointer (some ⟨b10, 9, none⟩)], [.pointer (some ⟨b10, 10, none⟩)], [.pointer (some ⟨b10, 11, none⟩)], [.pointer (some ⟨b10, 12, none⟩)], [.pointer (some ⟨b10, 13, none⟩)]]) el_324 hs rfl rfl rfl rfl (by simp) (by decide) (by decide) rfl (fun b128 w hb128 he128 hs => ?_)))))))))
 obtain ⟨V1, hle1, hbv, hs⟩ := hs.give hb128
 obtain ⟨cs0, hcs0, hs⟩ : ∃ cs0 : List Value, cs0 = eY { kind := 4, host := h, box := x } (.slice none 0 0) (.slice none 0 0) (.slice none 0 0) ∧ St ⟨w0, V, V1⟩ w [(b10, .cells cs0.toArray 30 (0, 0)), (b8, .cells zz.toArray 30 (0, 0))] := ⟨_, rfl, hs⟩
 have hl0 : cs0.length = 16 := by rw [hcs0]; rfl
 replace hb := hb.mono hle1
 refine lp (bC Tryz.underlying324 rfl) rfl (dM rfl rfl (aH (bQ (dC (fun g : Nat × Bool × Nat × List Value => soE (.slice a l.length cap) b8 b10 b128 g.2.2.1 g.1 g.2.1) (fun g w' => St ⟨w0, V, V1⟩ w' [(b10, .cells g.2.2.2.toArray 30 (0, 0)), (b8, .cells zz.toArray 30 (0, 0))] ∧ foursS l g.2.1 g.2.2.1 ([9, 10, 11, 12, 13].drop g.1) g.2.2.2 = foursS l ok o [9, 10, 11, 12, 13] cs0 ∧ g.1 ≤ 5 ∧ g.2.2.2.length = 16 ∧ g.2.2.1 ≤ l.length) (fun g => 5 - g.1) (0, ok, o, cs0) (soE_sub rfl rfl rfl rfl rfl rfl rfl rfl) ⟨hs, rfl, Nat.zero_le _, hl0, hol⟩ ?_))))
 clear hs
 rintro ⟨j, okj, i, cs⟩ w ⟨hs, hf, hj, hcl, hi⟩
 simp only at hs hf hj hcl hi ⊢
 refine dP (lp (cY rfl rfl) rfl (aH (aF (bH rfl (fun hc9 => ?_) (fun hc9 => ?_)))))
 have hj5 : j < 5 := by omega
 rw [soa_drop hj5] at hf
 refine aW (aF (bQ (dP (lp (eZ j (0 + j * 1) es_324 rfl rfl rfl hj5 rfl) rfl (lp (aO rfl (bR (v := .pointer (some ⟨b10, 9 + j, none⟩)) k_323 (Vw.cell_in hs.isIn (Vw.cell_of hbv (by rw [Nat.mul_one, Nat.zero_add]; exact soa_ptr hj5))))) rfl (dN rfl rfl (aH (dP (dM rfl rfl (aH (bJ rfl (fun hc10 => ?_) (fun hc10 => ?_))))))))))))
 subst hc10
 refine aB (dM rfl rfl (dM rfl rfl (dM rfl rfl (aZ ok_184 rfl rfl (c_four hs.isIn hb i rfl (by omega) (by omega)) rfl (fun v139 w HF => ?_)))))
 obtain ⟨hc2, z, o', ok', rfl, hr4⟩ := HF
 replace hs := hs.frame hc2
 refine dM rfl rfl (dO rfl rfl rfl (dO rfl rfl rfl (dO rfl rfl rfl (lp (aN rfl) rfl (aJ (o_storeP (k := 0) hs cB rfl rfl rfl rfl rfl (by omega) rfl rfl (fun w hs => dN rfl rfl (dN rfl rfl (aH (aB (lp (bN rfl rfl (fV (c := j + 1) (by omega) (by omega))) rfl (dM rfl rfl (aH ⟨(j + 1, ok', o', cs.set (9 + j) (.int .u32 z)), soE_sub rfl rfl rfl rfl rfl rfl rfl rfl, ⟨hs, ?_, by simp only; omega, by simp [hcl], ?_⟩, by simp only; omega⟩)))))))))))))
 rw [← hf]
 cases ok'
 have hlt : ¬ (i + 4 ≤ l.length) := fun h => by have h0 := hr4.badB.1; rw [rd32_yes h] at h0; cases h0
 obtain ⟨h0, rfl, rfl⟩ := hr4.badB
 conv => rhs; rw [foursS, if_neg hlt]
 obtain ⟨_, rfl, rfl, h4⟩ := hr4.okB
 conv => rhs; rw [foursS, if_pos h4]
 cases ok'
 obtain ⟨h0, rfl, rfl⟩ := hr4.badB; exact hi
 obtain ⟨_, rfl, rfl, h4⟩ := hr4.okB; exact h4
 subst hc10
 refine aW (aB (lp (bN rfl rfl (fV (c := j + 1) (by omega) (by omega))) rfl (dM rfl rfl (aH ⟨(j + 1, false, i, cs), soE_sub rfl rfl rfl rfl rfl rfl rfl rfl, ⟨hs, ?_, by simp only; omega, hcl, hi⟩, by simp only; omega⟩))))
 rw [← hf]
 conv => rhs; rw [foursS]
 refine eT (aF (aF ?_))
 have hj5 : j = 5 := by omega
 subst hj5
 replace hf : (okj, i, cs) = foursS l ok o [9, 10, 11, 12, 13] cs0 := by rw [← hf]; cases okj <;> rfl
 refine aB (dM rfl rfl (lp (cS rfl) rfl (aH (bJ rfl (fun hc11 => ?_) (fun hc11 => ?_)))))
 obtain rfl : okj = false := by simpa using hc11
 refine dP (lp (bM (vs := []) (ps := []) rfl bz_30) rfl (aJ (dR 1 hs eJ rfl rfl rfl rfl hzl (aG rfl) rfl (fun w hs => dN rfl rfl (aH (aV ⟨_, fX ⟨_, rfl, aP eJ (hs.g 1 rfl) rfl⟩ rfl, ?_⟩))))))
 have hno : body l n 4 len = none := by
  rcases hst with ⟨rfl, o1, h1, h2⟩ | ⟨_, h⟩
  exact soa_none h1 h2 ((fours5 hf.symm).2 rfl)
  exact h
 exact ⟨V1, _, false, rfl, (hs.drop hb10).drop hb8, rfl, aG rfl, .inr ⟨rfl, hno⟩⟩
 obtain rfl : okj = true := by simpa using hc11
 obtain ⟨rfl, o1, hn1, hn2⟩ : ok = true ∧ ∃ o1, name l n = some (h, o1) ∧ name l o1 = some (x, o) := by
  rcases hst with h | ⟨rfl, _⟩
  exact h
  rw [fours_false] at hf; cases hf
 obtain ⟨h20, hcs⟩ := (fours5 hf.symm).1 rfl
 subst hcs hcs0
 have hRR : RRec V1 { kind := 4, host := h, box := x, n1 := w32 l o, n2 := w32 l (o + 4), n3 := w32 l (o + 8), n4 := w32 l (o + 12), n5 := w32 l (o + 16) } (eY { kind := 4, host := h, box := x, n1 := w32 l o, n2 := w32 l (o + 4), n3 := w32 l (o + 8), n4 := w32 l (o + 12), n5 := w32 l (o + 16) } (.slice none 0 0) (.slice none 0 0) (.slice none 0 0)) := ⟨_, _, _, rfl, RB.nil V1, fF.nil V1, eV.nil V1⟩
 replace hs : St ⟨w0, V, V1⟩ _ [(b10, .cells (eY { kind := 4, host := h, box := x, n1 := w32 l o, n2 := w32 l (o + 4), n3 := w32 l (o + 8), n4 := w32 l (o + 12), n5 := w32 l (o + 16) } (.slice none 0 0) (.slice none 0 0) (.slice none 0 0)).toArray 30 (0, 0)), (b8, .cells zz.toArray 30 (0, 0))] := hs
 refine aW (dP (lp (aO rfl (aP eJ (hs.g 0 rfl) hRR.flat.2)) rfl (aJ (dR 1 hs eJ rfl rfl rfl hRR.flat.2 hzl hRR.flat.1 rfl (fun w hs => dN rfl rfl (aH (aV ⟨_, fX ⟨_, rfl, aP eJ (hs.g 1 rfl) hRR.flat.2⟩ rfl, ?_⟩)))))))
 exact ⟨V1, _, true, rfl, (hs.drop hb10).drop hb8, hRR.flat.2, hRR.flat.1, .inl ⟨rfl, _, by simp only [body, hn1, hn2, Option.bind_some, rd32_yes (show o + 4 ≤ l.length by omega), rd32_yes (show o + 4 + 4 ≤ l.length by omega), rd32_yes (show o + 8 + 4 ≤ l.length by omega), rd32_yes (show o + 12 + 4 ≤ l.length by omega), rd32_yes (show o + 16 + 4 ≤ l.length by omega), Option.map_some], hRR⟩⟩
end
end Go.Proofs.YtgpfjlfkaoffeaaGreatDoor
namespace Go.Proofs.YtgpfjlfkaoffeaaGreatDoor
open Go
section
variable {V : Vw} {w0 : World} {l : List UInt8} {mv : Value} {off : Int}
def tyE (mv : Value) (b8 b10 i e : Nat) (ok : Bool) : Env :=
 eH (eH (eH (eH (eH (eH emp 12 (.int .i64 e)) 11 (.bool ok)) 10 (.pointer (some ⟨b10, 0, none⟩))) 8 (.pointer (some ⟨b8, 0, none⟩))) 1 (.int .i64 i)) 0 mv
theorem dB {mv : Value} {b8 b10 i e : Nat} {ok : Bool} {ρ : Env} (h0 : ρ 0 = some mv) (h1 : ρ 1 = some (.int .i64 i)) (h8 : ρ 8 = some (.pointer (some ⟨b8, 0, none⟩))) (h10 : ρ 10 = some (.pointer (some ⟨b10, 0, none⟩))) (h11 : ρ 11 = some (.bool ok))
  (h12 : ρ 12 = some (.int .i64 e)) : Sub (tyE mv b8 b10 i e ok) ρ :=
 aL h0 (aL h1 (aL h8 (aL h10 (aL h11 (aL h12 (bG _))))))
set_option maxHeartbeats 4000000 in
theorem c_Body7 (hV : V.In w0) (hb : RB V mv l) (n : Nat) (hn : off = n) (len : Nat) {lv : Int} (hlv : lv = len) (h1 : n ≤ 1152921504606746970) (hlen : len ≤ 65536) (h2 : l.length ≤ 4294967296) :
  eC Tryz.prog 126 #[mv, .int .i64 off, .int .i64 7, .int .i64 lv] w0 fun v w' => ∃ (V' : Vw) (rc : List Value) (ok : Bool), v = .tuple #[.agg rc.toArray, .bool ok] ∧ St ⟨w0, V, V'⟩ w' [] ∧ SBody V' l n 7 len ok rc := by
 subst hn hlv
 obtain ⟨a, cap, rfl, hcap, ha⟩ := hb.form
 have hs := St.start hV
 refine aT [_, _, _, _] Tryz.func126 Tryz.ntmps126 Tryz.results126 rfl rfl (dP (aJ (aX hs z_30 rfl (fun b8 w hb8 he8 hs => dN rfl rfl (aH (dP (dM rfl rfl (lp (bL rfl (by rfl) (bu_30_5 _)) rfl (aJ (aX hs z_30 rfl (fun b10 w hb10 he10 hs => aJ (dR 0 hs eJ rfl rfl rfl (by simp) (by simp) (aG (by decide +kernel)) rfl (fun w hs => ?_)))))))))))))
 obtain ⟨zz, hzl, hs⟩ : ∃ zz : List Value, zz.length = 16 ∧ St ⟨w0, V, V⟩ w [(b10, .cells (eY { kind := 7 } (.slice none 0 0) (.slice none 0 0) (.slice none 0 0)).toArray 30 (0, 0)), (b8, .cells zz.toArray 30 (0, 0))] := ⟨_, rfl, hs⟩
 refine aH (dP (dN rfl rfl (aH (dP (dM rfl rfl (dM rfl rfl (lp (bN rfl rfl (fV (c := n + len) (by omega) (by omega))) rfl (dN rfl rfl (aH (aF (dP (dM rfl rfl (aH ?_)))))))))))))
 refine bQ (dP (lp (bI rfl rfl) rfl (dN rfl rfl (aH (aY rfl rfl (dP (lp (bI rfl rfl) rfl (dN rfl rfl (aH (aY rfl rfl (aF (dP (lp (bI rfl rfl) rfl ?_)))))))))))))
 refine dN rfl rfl (aH (aY rfl rfl (dP (lp (bI rfl rfl) rfl (dN rfl rfl (aH (aY rfl rfl (aB (lp (bI rfl rfl) rfl (dN rfl rfl (aH (aY rfl rfl (dP ?_)))))))))))))
 refine lp (bI rfl rfl) rfl (dN rfl rfl (aH (aY rfl rfl (dP (lp (bI rfl rfl) rfl (dN rfl rfl (aH (aY rfl rfl (dP (lp (bI rfl rfl) rfl (dN rfl rfl (aH (aY rfl rfl ?_)))))))))))))
 refine dP (lp (bI rfl rfl) rfl (dN rfl rfl (aH (cO rfl rfl (dP (dN rfl rfl (aH (bQ (dC (fun g : Nat × List (List UInt8) × Value => tyE (.slice a l.length cap) b8 b10 g.1 (n + len) true) (fun g w' => Sl 9 1 ⟨w0, V, V⟩ w' [(b10, .cells (eY { kind := 7 } (.slice none 0 0) g.2.2 (.slice none 0 0)).toArray 30 (0, 0)), (b8, .cells zz.toArray 30 (0, 0))] g.2.2 g.2.1.length (g.2.1.map fR) ∧ textsS l g.1 (n + len) g.2.1 = textsS l n (n + len) [] ∧ g.1 ≤ n + len ∧ g.2.1.length + n ≤ g.1) (fun g => n + len - g.1) (n, [], .slice none 0 0) (dB rfl rfl rfl rfl rfl rfl) ⟨Sl.nil hs, rfl, by simp only; omega, by simp⟩ ?_)))))))))
 clear hs
 rintro ⟨i, acc, sv⟩ w ⟨hsl, hp, hi, hacc⟩
 simp only at hsl hp hi hacc ⊢
 refine aF (aF ?_)
 cases hg : decide ((i : Int) < ((n + len : Nat) : Int))
 refine aB (dM rfl rfl (dM rfl rfl (lp (cY rfl rfl) rfl (dM rfl rfl (aU rfl rfl hg rfl (lp (bW rfl (by assumption) rfl) rfl (aH (aY rfl rfl (eT (aF (dP (dM rfl rfl (lp (cS rfl) rfl ?_)))))))))))))
 refine aH (aY rfl rfl (aW (aF ?_)))
 have hge := of_decide_eq_false hg
 obtain ⟨V', hle', hsv, hs⟩ := hsl.give
 have hT : fF V' sv acc := by unfold fF; exact hsv
 have hRR : RRec V' { kind := 7, texts := acc } (eY { kind := 7 } (.slice none 0 0) sv (.slice none 0 0)) := ⟨_, _, _, rfl, RB.nil V', hT, eV.nil V'⟩
 refine aB (lp (aO rfl (aP eJ (hs.g 0 rfl) hRR.flat.2)) rfl (aJ (dR 1 hs eJ rfl rfl rfl hRR.flat.2 hzl hRR.flat.1 rfl (fun w hs => dN rfl rfl (aH (aV ⟨_, fX ⟨_, rfl, aP eJ (hs.g 1 rfl) hRR.flat.2⟩ rfl, ?_⟩))))))
 exact ⟨V', _, true, rfl, (hs.drop hb10).drop hb8, hRR.flat.2, hRR.flat.1, .inl ⟨rfl, _, by simp only [body]; rw [← hp, textsS, dif_neg (by omega)]; rfl, hRR⟩⟩
 refine aB (dM rfl rfl (dM rfl rfl (lp (cY rfl rfl) rfl (dM rfl rfl (lg rfl rfl hg (aC rfl) rfl (lp (bO rfl (by assumption) rfl) rfl (aH (cO rfl rfl (aW (bQ (aF (dG (fun ρ w => Sub (eH (tyE (.slice a l.length cap) b8 b10 i (n + len) true) 181 (.bool (decide (¬ (i < l.length ∧ i + 1 + eB l i ≤ l.length ∧ i + 1 + eB l i ≤ n + len))))) ρ ∧ Sl 9 1 ⟨w0, V, V⟩ w [(b10, .cells (eY { kind := 7 } (.slice none 0 0) sv (.slice none 0 0)).toArray 30 (0, 0)), (b8, .cells zz.toArray 30 (0, 0))] sv acc.length (acc.map fR)) ?_ ?_))))))))))))
 have hbt := cU l i
 rcases (by omega : l.length ≤ i ∨ (i < l.length ∧ l.length < i + 1 + eB l i) ∨ (i < l.length ∧ i + 1 + eB l i ≤ l.length)) with ha0 | ⟨ha0, hb0⟩ | ⟨ha0, hb0⟩
 have hga : decide ((l.length : Int) ≤ (i : Int)) = true := decide_eq_true (by omega)
 refine aB (dM rfl rfl (dM rfl rfl (lp (bC Tryz.underlying23 rfl) rfl (lp (po_geq rfl rfl) rfl (dM rfl rfl (aU rfl rfl hga rfl (aU rfl rfl hga rfl (aU rfl rfl hga rfl (aU rfl rfl hga rfl (aU rfl rfl hga rfl (aU rfl rfl hga rfl (aU rfl rfl hga rfl (aU rfl rfl hga rfl ?_)))))))))))))
 refine aU rfl rfl hga rfl (aU rfl rfl hga rfl (aU rfl rfl hga rfl (lp (bO rfl hga rfl) rfl (dM rfl rfl (aU rfl rfl rfl rfl (aU rfl rfl rfl rfl (aU rfl rfl rfl rfl (aU rfl rfl rfl rfl (aU rfl rfl rfl rfl (aU rfl rfl rfl rfl (aU rfl rfl rfl rfl (aU rfl rfl rfl rfl (aU rfl rfl rfl rfl ?_)))))))))))))
 refine aU rfl rfl rfl rfl (lp (bO rfl rfl rfl) rfl (aH ?_))
 have hval : (true : Bool) = decide (¬ (i < l.length ∧ i + 1 + eB l i ≤ l.length ∧ i + 1 + eB l i ≤ n + len)) := (decide_eq_true (by omega)).symm
 exact ⟨aL (congrArg (fun t => some (Value.bool t)) hval) (dB rfl rfl rfl rfl rfl rfl), hsl⟩
 have hga : decide ((l.length : Int) ≤ (i : Int)) = false := decide_eq_false (by omega)
 have hgb : decide ((l.length : Int) < ((i + 1 + eB l i : Nat) : Int)) = true := decide_eq_true (by omega)
 obtain ⟨b, p, rfl, hc⟩ := ha (by omega)
 refine aB (dM rfl rfl (dM rfl rfl (lp (bC Tryz.underlying23 rfl) rfl (lp (po_geq rfl rfl) rfl (dM rfl rfl (lg rfl rfl hga (aC rfl) rfl (lg rfl rfl hga (bN rfl rfl (fV (c := i + 1) (by omega) (by omega))) rfl (lg rfl rfl hga (aC rfl) rfl (lg rfl rfl hga (aC rfl) rfl (lg rfl rfl hga (po_ia es_23 rfl rfl (by omega) (by omega)) rfl (lg rfl rfl hga (aO rfl (bR k_5 (ldb hsl.isIn hc i rfl (by omega)))) rfl (lg rfl rfl hga (bY Tryz.underlying5 Tryz.underlying3 rfl (fV (c := eB l i) rfl (by omega))) rfl (lg rfl rfl hga (bN rfl rfl (fV (c := i + 1 + eB l i) (by omega) (by omega))) rfl ?_)))))))))))))
 refine lg rfl rfl hga (aC rfl) rfl (lg rfl rfl hga (bC Tryz.underlying23 rfl) rfl (lg rfl rfl hga (cQ rfl rfl) rfl (lp (bW rfl hga rfl) rfl (dM rfl rfl (aU rfl rfl hgb rfl (aU rfl rfl hgb rfl (aU rfl rfl hgb rfl (aU rfl rfl hgb rfl (aU rfl rfl hgb rfl (aU rfl rfl hgb rfl (aU rfl rfl hgb rfl (aU rfl rfl hgb rfl (aU rfl rfl hgb rfl ?_)))))))))))))
 refine aU rfl rfl hgb rfl (lp (bO rfl hgb rfl) rfl (aH ?_))
 have hval : (true : Bool) = decide (¬ (i < l.length ∧ i + 1 + eB l i ≤ l.length ∧ i + 1 + eB l i ≤ n + len)) := (decide_eq_true (by omega)).symm
 exact ⟨aL (congrArg (fun t => some (Value.bool t)) hval) (dB rfl rfl rfl rfl rfl rfl), hsl⟩
 have hga : decide ((l.length : Int) ≤ (i : Int)) = false := decide_eq_false (by omega)
 have hgb : decide ((l.length : Int) < ((i + 1 + eB l i : Nat) : Int)) = false := decide_eq_false (by omega)
 obtain ⟨b, p, rfl, hc⟩ := ha (by omega)
 refine aB (dM rfl rfl (dM rfl rfl (lp (bC Tryz.underlying23 rfl) rfl (lp (po_geq rfl rfl) rfl (dM rfl rfl (lg rfl rfl hga (aC rfl) rfl (lg rfl rfl hga (bN rfl rfl (fV (c := i + 1) (by omega) (by omega))) rfl (lg rfl rfl hga (aC rfl) rfl (lg rfl rfl hga (aC rfl) rfl (lg rfl rfl hga (po_ia es_23 rfl rfl (by omega) (by omega)) rfl (lg rfl rfl hga (aO rfl (bR k_5 (ldb hsl.isIn hc i rfl (by omega)))) rfl (lg rfl rfl hga (bY Tryz.underlying5 Tryz.underlying3 rfl (fV (c := eB l i) rfl (by omega))) rfl (lg rfl rfl hga (bN rfl rfl (fV (c := i + 1 + eB l i) (by omega) (by omega))) rfl ?_)))))))))))))
 refine lg rfl rfl hga (aC rfl) rfl (lg rfl rfl hga (bC Tryz.underlying23 rfl) rfl (lg rfl rfl hga (cQ rfl rfl) rfl (lp (bW rfl hga rfl) rfl (dM rfl rfl (lg rfl rfl hgb (aC rfl) rfl (lg rfl rfl hgb (bN rfl rfl (fV (c := i + 1) (by omega) (by omega))) rfl (lg rfl rfl hgb (aC rfl) rfl (lg rfl rfl hgb (aC rfl) rfl (lg rfl rfl hgb (po_ia es_23 rfl rfl (by omega) (by omega)) rfl (lg rfl rfl hgb (aO rfl (bR k_5 (ldb hsl.isIn hc i rfl (by omega)))) rfl (lg rfl rfl hgb (bY Tryz.underlying5 Tryz.underlying3 rfl (fV (c := eB l i) rfl (by omega))) rfl (lg rfl rfl hgb (bN rfl rfl (fV (c := i + 1 + eB l i) (by omega) (by omega))) rfl (lg rfl rfl hgb (aC rfl) rfl ?_)))))))))))))
 refine lg rfl rfl hgb (cQ rfl rfl) rfl (lp (bW rfl hgb rfl) rfl (aH ?_))
 have hval : decide (((n + len : Nat) : Int) < ((i + 1 + eB l i : Nat) : Int)) = decide (¬ (i < l.length ∧ i + 1 + eB l i ≤ l.length ∧ i + 1 + eB l i ≤ n + len)) := decide_eq_decide.2 (by omega)
 exact ⟨aL (congrArg (fun t => some (Value.bool t)) hval) (dB rfl rfl rfl rfl rfl rfl), hsl⟩
 clear hsl
 rintro ρ w ⟨hsub, hsl⟩
 refine EW.weaken hsub (bH rfl (fun hc12 => ?_) (fun hc12 => ?_))
 refine dP (dN rfl rfl (aH (eT (aF (dP (dM rfl rfl (lp (cS rfl) rfl (aH (cO rfl rfl (aF ?_))))))))))
 have hs := hsl.st
 refine aB (lp (bM (vs := []) (ps := []) rfl bz_30) rfl (aJ (dR 1 hs eJ rfl rfl rfl rfl hzl (aG rfl) rfl (fun w hs => dN rfl rfl (aH (aV ⟨_, fX ⟨_, rfl, aP eJ (hs.g 1 rfl) rfl⟩ rfl, ?_⟩))))))
 exact ⟨V, _, false, rfl, (hs.drop hb10).drop hb8, rfl, aG rfl, .inr ⟨rfl, by simp only [body]; rw [← hp, textsS, dif_pos (Int.ofNat_lt.1 (of_decide_eq_true hg)), if_neg hc12]; rfl⟩⟩
 refine aW (aF ?_)
 have hgood := Decidable.not_not.1 hc12
 have hbt := cU l i
 obtain ⟨b, p, rfl, hc⟩ := ha (by omega)
 refine aB (dM rfl rfl (dM rfl rfl (lp (po_ia es_23 rfl rfl (by omega) (by omega)) rfl (lp (aO rfl (bR k_5 (ldb hsl.isIn hc i rfl (by omega)))) rfl (lp (bY Tryz.underlying5 Tryz.underlying3 rfl (fV (c := eB l i) rfl (by omega))) rfl (dN rfl rfl (aH (aF ?_))))))))
 obtain ⟨X, hX, hs⟩ := hsl.open
 have hRBs := hb.part (i := i + 1) (m := eB l i) (by omega)
 refine e_draw (fun w2 => w2.heap[b10]? = some (.cells (eY { kind := 7 } (.slice none 0 0) sv (.slice none 0 0)).toArray 30 (0, 0))) [1] mixed (fun w hw => ?_)
 replace hs := hw.st hs
 refine dI 0 rfl (fun w => aR fo_30_14 rfl) rfl rfl (dJ 1 rfl (hs.g 0 rfl) rfl (fun w hf => (aO rfl (aQ k_28 hf rfl))) rfl (dI 2 rfl (fun w => aC rfl) rfl rfl (dI 3 rfl (fun w => aC rfl) rfl rfl (dI 4 rfl (fun w => (bN rfl rfl (fV (c := i + 1) (by omega) (by omega)))) rfl rfl (dI 5 rfl (fun w => aC rfl) rfl rfl (dI 6 rfl (fun w => (bN rfl rfl (fV (c := i + 1) (by omega) (by omega)))) rfl rfl (dI 7 rfl (fun w => aC rfl) rfl rfl (dI 8 rfl (fun w => (bN rfl rfl (fV (c := i + 1 + eB l i) (by omega) (by omega)))) rfl rfl (dI 9 rfl (fun w => (po_partR (i + 1) (eB l i) es_23 rfl rfl rfl rfl rfl (by omega))) rfl rfl (dL 10 rfl (o_pure (po_bytesStrR hRBs hs.isIn Tryz.underlying23 Tryz.underlying5 Tryz.underlying9 rfl) rfl ⟨fun _ => hs.g 0 rfl, dL 11 rfl (o_bslice (vls := [[fR (seg l (i + 1) (eB l i))]]) el_28 hs rfl rfl rfl rfl (by simp) (by decide) (by decide) rfl (fun b198 w hb198 he198 hs => ⟨fun _ => hs.g 1 rfl, ?_⟩))⟩)))))))))))
 refine dL 12 rfl (fA (k := 1) (news := [fR (seg l (i + 1) (eB l i))]) el_28 (.inr ⟨_, Tryz.underlying28⟩) (SlX.close (L := [_, _, _]) hX hs) rfl rfl (src_own (k := 0) hs rfl rfl) (aG rfl) (by omega) (by omega) rfl (fun v199 w hs => ⟨fun _ => hs.st.get (k := 1) rfl, ?_⟩))
 have hone := hs.oneCell
 obtain ⟨X2, hX2, hs⟩ := (hs.drop hb198).open
 refine dI 13 rfl (fun w => aR fo_30_14 rfl) rfl rfl (dL 14 rfl (dQ 0 hs k_28 rfl rfl rfl hone rfl rfl rfl (fun w hs => ⟨fun h => absurd h (by decide +kernel), bS (by decide +kernel) (aB (dM rfl rfl (dM rfl rfl (lp (bN rfl rfl (i64w (by omega))) rfl (lp (bN rfl rfl (fV (c := i + 1 + eB l i) (by omega) (by omega))) rfl (dN rfl rfl (aH ?_)))))))⟩)))
 have e1 : (acc ++ [seg l (i + 1) (eB l i)]).length = acc.length + 1 := by simp
 have e2 : (acc ++ [seg l (i + 1) (eB l i)]).map fR = acc.map fR ++ [fR (seg l (i + 1) (eB l i))] := by simp
 exact ⟨(i + 1 + eB l i, acc ++ [seg l (i + 1) (eB l i)], v199), dB rfl rfl rfl rfl rfl rfl, ⟨by rw [e1, e2]; exact SlX.close (L := [_, _]) hX2 hs, by
  rw [← hp]
  conv => rhs; rw [textsS, dif_pos (Int.ofNat_lt.1 (of_decide_eq_true hg)), if_pos hgood], by simp only; omega, by simp only [e1]; omega⟩, by have := Int.ofNat_lt.1 (of_decide_eq_true hg); simp only; omega⟩
end
end Go.Proofs.YtgpfjlfkaoffeaaGreatDoor
namespace Go.Proofs.YtgpfjlfkaoffeaaGreatDoor
open Go
section
variable {V : Vw} {w0 : World} {l : List UInt8} {mv : Value} {off : Int}
set_option maxHeartbeats 4000000 in
theorem c_Body10 (hV : V.In w0) (hb : RB V mv l) (n : Nat) (hn : off = n) (len : Nat) {lv : Int} (hlv : lv = len) (h1 : n ≤ 1152921504606746970) (hlen : len ≤ 65536) (h2 : l.length ≤ 4294967296) :
  eC Tryz.prog 126 #[mv, .int .i64 off, .int .i64 10, .int .i64 lv] w0 fun v w' => ∃ (V' : Vw) (rc : List Value) (ok : Bool), v = .tuple #[.agg rc.toArray, .bool ok] ∧ St ⟨w0, V, V'⟩ w' [] ∧ SBody V' l n 10 len ok rc := by
 subst hn hlv
 obtain ⟨a, cap, rfl, hcap, ha⟩ := hb.form
 have hs := St.start hV
 refine aT [_, _, _, _] Tryz.func126 Tryz.ntmps126 Tryz.results126 rfl rfl (dP (aJ (aX hs z_30 rfl (fun b8 w hb8 he8 hs => dN rfl rfl (aH (dP (dM rfl rfl (lp (bL rfl (by rfl) (bu_30_5 _)) rfl (aJ (aX hs z_30 rfl (fun b10 w hb10 he10 hs => aJ (dR 0 hs eJ rfl rfl rfl (by simp) (by simp) (aG (by decide +kernel)) rfl (fun w hs => ?_)))))))))))))
 obtain ⟨zz, hzl, hs⟩ : ∃ zz : List Value, zz.length = 16 ∧ St ⟨w0, V, V⟩ w [(b10, .cells (eY { kind := 10 } (.slice none 0 0) (.slice none 0 0) (.slice none 0 0)).toArray 30 (0, 0)), (b8, .cells zz.toArray 30 (0, 0))] := ⟨_, rfl, hs⟩
 refine aH (dP (dN rfl rfl (aH (dP (dM rfl rfl (dM rfl rfl (lp (bN rfl rfl (fV (c := n + len) (by omega) (by omega))) rfl (dN rfl rfl (aH (aF (dP (dM rfl rfl (aH ?_)))))))))))))
 refine bQ (dP (lp (bI rfl rfl) rfl (dN rfl rfl (aH (aY rfl rfl (dP (lp (bI rfl rfl) rfl (dN rfl rfl (aH (aY rfl rfl (aF (dP (lp (bI rfl rfl) rfl ?_)))))))))))))
 refine dN rfl rfl (aH (aY rfl rfl (dP (lp (bI rfl rfl) rfl (dN rfl rfl (aH (aY rfl rfl (aB (lp (bI rfl rfl) rfl (dN rfl rfl (aH (aY rfl rfl (dP ?_)))))))))))))
 refine lp (bI rfl rfl) rfl (dN rfl rfl (aH (aY rfl rfl (dP (lp (bI rfl rfl) rfl (dN rfl rfl (aH (aY rfl rfl (dP (lp (bI rfl rfl) rfl (dN rfl rfl (aH (aY rfl rfl ?_)))))))))))))
 refine dP (lp (bI rfl rfl) rfl (dN rfl rfl (aH (aY rfl rfl (dP (lp (bI rfl rfl) rfl (dN rfl rfl (aH (cO rfl rfl (dP (dN rfl rfl (aH (bQ ?_)))))))))))))
 refine dC (fun g : Nat × Bool × List fU × List Value × Value × Vw × Nat => tyE (.slice a l.length cap) b8 b10 g.1 (n + len) g.2.1) (fun g w' => Sl 25 2 ⟨w0, V, g.2.2.2.2.2.1⟩ w' [(b10, .cells (eY { kind := 10 } (.slice none 0 0) (.slice none 0 0) g.2.2.2.2.1).toArray 30 (0, 0)), (b8, .cells zz.toArray 30 (0, 0))] g.2.2.2.2.1 g.2.2.2.2.2.2 g.2.2.2.1 ∧ (g.2.1 = true → Rows 2 (RPair g.2.2.2.2.2.1) g.2.2.1 g.2.2.2.1 ∧ g.2.2.2.2.2.2 = g.2.2.1.length ∧ optsS l g.1 (n + len) g.2.2.1 = optsS l n (n + len) [] ∧ 4 * g.2.2.2.2.2.2 + n ≤ g.1) ∧ (g.2.1 = false → optsS l n (n + len) [] = none) ∧ g.1 ≤ n + len + 65540) (fun g => if g.2.1 = true then (n + len - g.1) + 1 else 0) (n, true, [], [], .slice none 0 0, V, 0) (dB rfl rfl rfl rfl rfl rfl) ⟨Sl.nil hs, fun _ => ⟨rfl, rfl, rfl, by simp⟩, fun h => (by cases h), by simp only; omega⟩ ?_
 clear hs
 rintro ⟨i, ok, acc, xs, sv, Vc, m⟩ w ⟨hsl, hgood, hbad, hi⟩
 simp only at hsl hgood hbad hi ⊢
 refine aF (aF ?_)
 cases hg : decide ((i : Int) < ((n + len : Nat) : Int))
 refine aB (dM rfl rfl (dM rfl rfl (lp (cY rfl rfl) rfl (dM rfl rfl (aU rfl rfl hg rfl (lp (bW rfl (by assumption) rfl) rfl (aH (aY rfl rfl (eT (aF (dP (dM rfl rfl (lp (cS rfl) rfl ?_)))))))))))))
 refine aH (bJ rfl (fun hc11 => ?_) (fun hc11 => ?_))
 obtain rfl : ok = false := by simpa using hc11
 refine aF ?_
 have hs := hsl.st
 refine aB (lp (bM (vs := []) (ps := []) rfl bz_30) rfl (aJ (dR 1 hs eJ rfl rfl rfl rfl hzl (aG rfl) rfl (fun w hs => dN rfl rfl (aH (aV ⟨_, fX ⟨_, rfl, aP eJ (hs.g 1 rfl) rfl⟩ rfl, ?_⟩))))))
 exact ⟨Vc, _, false, rfl, (hs.drop hb10).drop hb8, rfl, aG rfl, .inr ⟨rfl, by simp only [body]; rw [hbad rfl]; rfl⟩⟩
 obtain rfl : ok = true := by simpa using hc11
 refine aW (aF ?_)
 have hge := of_decide_eq_false hg
 obtain ⟨hrows, hm, hp, h4⟩ := hgood rfl
 subst hm
 obtain ⟨V', hle', hsv, hs⟩ := hsl.give
 have hT : eV V' sv acc := ⟨xs, hsv, hrows.mono fun _ _ h => h.mono hle'⟩
 have hRR : RRec V' { kind := 10, pairs := acc } (eY { kind := 10 } (.slice none 0 0) (.slice none 0 0) sv) := ⟨_, _, _, rfl, RB.nil V', fF.nil V', hT⟩
 refine aB (lp (aO rfl (aP eJ (hs.g 0 rfl) hRR.flat.2)) rfl (aJ (dR 1 hs eJ rfl rfl rfl hRR.flat.2 hzl hRR.flat.1 rfl (fun w hs => dN rfl rfl (aH (aV ⟨_, fX ⟨_, rfl, aP eJ (hs.g 1 rfl) hRR.flat.2⟩ rfl, ?_⟩))))))
 exact ⟨V', _, true, rfl, (hs.drop hb10).drop hb8, hRR.flat.2, hRR.flat.1, .inl ⟨rfl, _, by simp only [body]; rw [← hp, optsS, dif_neg (by omega)]; rfl, hRR⟩⟩
 refine aB (dM rfl rfl (dM rfl rfl (lp (cY rfl rfl) rfl (dM rfl rfl (lg rfl rfl hg (aC rfl) rfl (lp (bO rfl (by assumption) rfl) rfl (aH (bJ rfl (fun hc12 => ?_) (fun hc12 => ?_)))))))))
 subst hc12
 refine aW (bQ (aF ?_))
 have hlt : i < n + len := Int.ofNat_lt.1 (of_decide_eq_true hg)
 obtain ⟨hrows, hm, hp, h4⟩ := hgood rfl
 have hle := hsl.st.view
 replace hb := hb.mono hle
 obtain ⟨X, hX, hs⟩ := hsl.open
 refine aB (lp (bM (vs := []) (ps := []) rfl bz_25) rfl (aJ (aX hs z_25 rfl (fun b16 w hb16 he16 hs => aJ (dR 0 hs k_25 rfl rfl rfl (by simp) (by simp) (aG (by decide +kernel)) rfl (fun w hs => dN rfl rfl (aH (dP (dM rfl rfl (dM rfl rfl (aZ ok_174 rfl rfl (c_two hs.isIn hb i rfl (by omega) (by omega)) rfl (fun v217 w HF => ?_))))))))))))
 obtain ⟨hc, x, o1, ok1, rfl, hr⟩ := HF
 replace hs := hs.frame hc
 have hxl := R16.lt hr
 refine dM rfl rfl (dO rfl rfl rfl (dO rfl rfl rfl (dO rfl rfl rfl (lp (aR fo_25_0 rfl) rfl (aJ (dQ 0 hs eS rfl rfl rfl rfl rfl rfl rfl (fun w hs => dN rfl rfl (dN rfl rfl (aH (dG (fun ρ w => ∃ (ok2 : Bool) (o nn : Nat), Sub (eH (eH (tyE (.slice a l.length cap) b8 b10 o (n + len) ok2) 17 (.int .u16 nn)) 16 (.pointer (some ⟨b16, 0, none⟩))) ρ ∧ St ⟨w0, V, Vc⟩ w ([(b16, .cells [Value.int .u16 (x : Nat), .slice none 0 0].toArray 25 (0, 0)), (b10, .cells (eY { kind := 10 } (.slice none 0 0) (.slice none 0 0) sv).toArray 30 (0, 0)), (b8, .cells zz.toArray 30 (0, 0))] ++ X) ∧ nn ≤ 65535 ∧ o ≤ i + 4 ∧ ((ok2 = true ∧ i + 4 ≤ l.length ∧ o = i + 4 ∧ nn = w16 l (i + 2) ∧ x = w16 l i) ∨ (ok2 = false ∧ l.length < i + 4))) ?_ ?_))))))))))
 refine dP (dM rfl rfl (aH (bJ rfl (fun hc13 => ?_) (fun hc13 => ?_))))
 subst hc13
 obtain ⟨_, rfl, rfl, hl1⟩ := hr.okB
 refine aB (dM rfl rfl (dM rfl rfl (aZ ok_174 rfl rfl (c_two hs.isIn hb (i + 2) rfl (by omega) (by omega)) rfl (fun v226 w HF => ?_))))
 obtain ⟨hc, y, o2, ok2, rfl, hr2⟩ := HF
 replace hs := hs.frame hc
 have hyl := R16.lt hr2
 refine dM rfl rfl (dO rfl rfl rfl (dO rfl rfl rfl (dO rfl rfl rfl (dN rfl rfl (dN rfl rfl (dN rfl rfl (aH ⟨ok2, o2, y, aL rfl (aL rfl (dB rfl rfl rfl rfl rfl rfl)), hs, by omega, by omega, ?_⟩)))))))
 cases ok2
 exact .inr ⟨rfl, by have := hr2.badB.2.1; omega⟩
 obtain ⟨_, rfl, rfl, hl2⟩ := hr2.okB
 exact .inl ⟨rfl, by omega, rfl, rfl, rfl⟩
 subst hc13
 refine aW ?_
 exact ⟨false, o1, 0, aL rfl (aL rfl (dB rfl rfl rfl rfl rfl rfl)), hs, by decide, by omega, .inr ⟨rfl, by have := hr.badB.2.1; omega⟩⟩
 clear hs
 rintro ρ w ⟨ok2, o, nn, hsub, hs, hnn, hoi, h2s⟩
 refine EW.weaken hsub (dG (fun ρ w => ∃ (V1 : Vw) (bv : Value) (ok3 : Bool), Sub (eH (eH (tyE (.slice a l.length cap) b8 b10 o (n + len) ok3) 17 (.int .u16 nn)) 16 (.pointer (some ⟨b16, 0, none⟩))) ρ ∧ Vc.le V1 ∧ St ⟨w0, V, V1⟩ w ([(b16, .cells [Value.int .u16 (x : Nat), bv].toArray 25 (0, 0)), (b10, .cells (eY { kind := 10 } (.slice none 0 0) (.slice none 0 0) sv).toArray 30 (0, 0)), (b8, .cells zz.toArray 30 (0, 0))] ++ X) ∧ bv.oneCell' = true ∧ ((ok3 = true ∧ ok2 = true ∧ o + nn ≤ l.length ∧ RB V1 bv (seg l o nn)) ∨ (ok3 = false ∧ (ok2 = true → l.length < o + nn)))) ?_ ?_)
 refine dP (dM rfl rfl (aH (bJ rfl (fun hc14 => ?_) (fun hc14 => ?_))))
 subst hc14
 refine aB (dM rfl rfl (dM rfl rfl (dM rfl rfl (lp (bY Tryz.underlying22 Tryz.underlying3 rfl (fV (c := nn) rfl (by omega))) rfl (aZ ok_181 rfl rfl (c_bytesAt hs.isIn hb o nn rfl rfl (by omega) (by omega) (by omega)) rfl (fun v236 w HF => ?_))))))
 obtain ⟨V1, bv, ok3, rfl, hc, hrb⟩ := HF
 have hle1 := hc.view
 replace hs := hs.frame hc
 refine dM rfl rfl (dO rfl rfl rfl (dO rfl rfl rfl (lp (aR fo_25_1 rfl) rfl (aJ (dQ 0 hs k_23 rfl rfl rfl hrb.oneCell rfl rfl rfl (fun w hs => dN rfl rfl (aH ⟨V1, bv, ok3, aL rfl (aL rfl (dB rfl rfl rfl rfl rfl rfl)), hle1, hs, hrb.oneCell, ?_⟩)))))))
 cases ok3
 exact .inr ⟨rfl, fun _ => hrb.badB.1⟩
 exact .inl ⟨rfl, rfl, hrb.okB.1, hrb.okB.2⟩
 subst hc14
 refine aW ?_
 exact ⟨Vc, .slice none 0 0, false, aL rfl (aL rfl (dB rfl rfl rfl rfl rfl rfl)), Vc.le_refl, hs, rfl, .inr ⟨rfl, fun h => by cases h⟩⟩
 clear hs
 rintro ρ w ⟨V1, bv, ok3, hsub, hle1, hs, hbv, h3s⟩
 refine EW.weaken hsub (dP (dM rfl rfl (dM rfl rfl (lp (bY Tryz.underlying22 Tryz.underlying3 rfl (fV (c := nn) rfl (by omega))) rfl (lp (bN rfl rfl (fV (c := o + nn) (by omega) (by omega))) rfl (dN rfl rfl (aH (aB (lp (aR fo_30_15 rfl) rfl (lp (aO rfl (aQ k_26 (hs.g 1 rfl) rfl)) rfl (lp (aO rfl (aP k_25 (hs.g 0 rfl) (by simp))) rfl (l_app1 (cl := [.int .u16 (x : Nat), bv]) el_26 (SlX.close (L := [_, _, _]) hX hs) (fun _ => rfl) rfl rfl rfl (bX rfl (bX hbv eQ)) (by omega) (by omega) (by omega) rfl rfl (fun b247 sv' w hs => ?_)))))))))))))
 have hone := hs.oneCell
 obtain ⟨X2, hX2, hs⟩ := (hs.drop hb16).open
 skip
 refine lp (aR fo_30_15 rfl) rfl (aJ (dQ 0 hs k_26 rfl rfl rfl hone rfl rfl rfl (fun w hs => aH ⟨(o + nn, ok3, acc ++ [⟨x, seg l o nn⟩], _, sv', V1, m + 1), dB rfl rfl rfl rfl rfl rfl, ⟨SlX.close (L := [_, _]) hX2 hs, fun hk => ?_, fun hk => ?_, by simp only; omega⟩, ?_⟩)))
 simp only at hk; subst hk
 obtain ⟨_, hk2, hfit, hRB⟩ : true = true ∧ ok2 = true ∧ o + nn ≤ l.length ∧ RB V1 bv (seg l o nn) := by
  rcases h3s with h | ⟨h, _⟩
  exact h
  cases h
 obtain ⟨_, hl4, rfl, rfl, rfl⟩ : true = true ∧ i + 4 ≤ l.length ∧ o = i + 4 ∧ nn = w16 l (i + 2) ∧ x = w16 l i := by
  rcases h2s with ⟨_, h⟩ | ⟨h, _⟩
  exact ⟨rfl, h⟩
  rw [h] at hk2; cases hk2
 refine ⟨Rows.snoc (hrows.mono fun _ _ h => h.mono hle1) ⟨bv, rfl, hRB⟩ rfl, by simp [hm], ?_, by simp only; omega⟩
 rw [← hp]
 conv => rhs; rw [optsS, dif_pos hlt, if_pos ⟨hl4, hfit⟩]
 simp only at hk; subst hk
 rw [← hp, optsS, dif_pos hlt, if_neg]
 rintro ⟨q1, q2⟩
 rcases h3s with ⟨h, _⟩ | ⟨_, h⟩
 cases h
 rcases h2s with ⟨h1, _, rfl, rfl, _⟩ | ⟨_, h1⟩
 have := h h1; omega
 omega
 simp only
 rw [if_pos trivial]
 split
 rename_i hk
 rcases h3s with ⟨_, hk2, _⟩ | ⟨h, _⟩
 rcases h2s with ⟨_, _, rfl, _⟩ | ⟨h, _⟩
 omega
 rw [h] at hk2; cases hk2
 rw [h] at hk; cases hk
 omega
 subst hc12
 refine eT (aF (dP (dM rfl rfl (lp (cS rfl) rfl (aH (cO rfl rfl (aF ?_)))))))
 have hs := hsl.st
 refine aB (lp (bM (vs := []) (ps := []) rfl bz_30) rfl (aJ (dR 1 hs eJ rfl rfl rfl rfl hzl (aG rfl) rfl (fun w hs => dN rfl rfl (aH (aV ⟨_, fX ⟨_, rfl, aP eJ (hs.g 1 rfl) rfl⟩ rfl, ?_⟩))))))
 exact ⟨Vc, _, false, rfl, (hs.drop hb10).drop hb8, rfl, aG rfl, .inr ⟨rfl, by simp only [body]; rw [hbad rfl]; rfl⟩⟩
end
end Go.Proofs.YtgpfjlfkaoffeaaGreatDoor

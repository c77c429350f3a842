/- The body of a record, by its type. The parser: a record read, a record passed over. -/
import Derived.Test.YtgpfjlfkaoffeaaGreatDoorP18
import Derived.Test.YtgpfjlfkaoffeaaGreatDoorP09
set_option linter.all false
namespace Go.Proofs.YtgpfjlfkaoffeaaGreatDoor
open Go
def bodyT (kind : Nat) : Nat :=
 match kind with
 | 1 => 248
 | 2 => 250
 | 3 => 252
 | 4 => 254
 | 5 => 256
 | 6 => 258
 | 7 => 260
 | 8 => 262
 | 9 => 264
 | 11 => 268
 | 12 => 270
 | 10 => 266
 | 13 => 272
 | _ => 0
def RBody (V : Vw) (t : Nat) (v : Value) (r : PRec) : Prop :=
 ∃ b cs E, v = .iface (bodyT r.kind) (.pointer (some ⟨b, 0, none⟩)) ∧ V b = some (.cells cs.toArray E (0, 0)) ∧ BodyC V r.kind t r cs ∧ 1 ≤ r.kind ∧ r.kind ≤ 13
theorem BodyC.mono {V V' : Vw} (hV : V.le V') {kind t : Nat} {r : PRec} {cs : List Value} (h : BodyC V kind t r cs) : BodyC V' kind t r cs := by
 unfold BodyC at *
 split at h
 all_goals first
  | exact h
  | (obtain ⟨v, h1, h2⟩ := h; exact ⟨v, h1, h2.mono hV⟩)
  | (obtain ⟨v, h1, h2, h3, h4⟩ := h; exact ⟨v, h1, h2, h3, h4.mono hV⟩)
theorem RBody.mono {V V' : Vw} (hV : V.le V') {t : Nat} {v : Value} {r : PRec} (h : RBody V t v r) : RBody V' t v r := by
 obtain ⟨b, cs, E, h1, h2, h3, h4⟩ := h
 exact ⟨b, cs, E, h1, hV _ _ h2, h3.mono hV, h4⟩
theorem body_kind {b : List UInt8} {i kind len : Nat} {r : PRec} (h : body b i kind len = some r) : r.kind = kind := by
 unfold body at h
 split at h
 all_goals
  simp only [Option.map_eq_some_iff, Option.bind_eq_some_iff] at h
  repeat (obtain ⟨_, _, h⟩ := h)
  rfl
theorem body12 {b : List UInt8} {i len : Nat} : body b i 12 len = (body b i 11 len).map fun r => { r with kind := 12 } := by
 simp only [body]
 cases rd16 b i with
 | none => rfl
 | some n1 =>
  cases name b (i + 2) with
  | none => rfl
  | some h => simp only [Option.bind_some]; cases parsS b h.2 (i + len) [] <;> rfl
section
variable {A : Nat → Addr} {V : Vw} {w0 : World} {l : List UInt8} {mv : Value} {off : Int}
set_option maxHeartbeats 4000000 in
theorem c_unpackBody (hG : Gl A V) (hV : V.In w0) (hb : RB V mv l) (h : PRec) (hnm : h.name.length ≤ 254) (hty : h.type < 65536) (hlen : h.length < 65536) (n : Nat) (hn : off = n) (h1 : n ≤ 1152921504606700000) (h2 : l.length ≤ 1152921504606700000) :
  CallsV Tryz.prog 191 #[mv, .int .i64 off, .agg (hdrC h).toArray] w0 fun v w' => ∃ (V' : Vw) (bv e : Value) (o : Nat) (k : EK), v = .tuple #[bv, .int .i64 o, e] ∧ St ⟨w0, V, V'⟩ w' [] ∧ ErrV A e k ∧
   ((∃ r, k = .ok ∧ body l n (kindOfType h.type) h.length = some r ∧ RBody V' h.type bv r ∧ o = n + h.length) ∨ (k = .other ∧ body l n (kindOfType h.type) h.length = none ∧ bv = .nilIface ∧ o = n)) := by
 subst hn
 have hs := St.start hV
 have hnl := cM (out := h.name) (n := h.name.length) (by omega)
 refine aT [_, _, _] Tryz.func191 Tryz.ntmps191 Tryz.results191 rfl rfl (dP (aJ (cR hs rfl rfl rfl (fun b5 w hb5 hbe5 hs => dN rfl rfl (dN rfl rfl (dN rfl rfl (aH (dP (dN rfl rfl (aH (dP (dN rfl rfl (aH (dP ?_))))))))))))))
 refine dN rfl rfl (aH (dG (fun ρ w => ∃ (Vc : Vw) (bb T E : Nat) (cs : List Value) (k : EK) (e : Value) (sn : ByteArray), Sub (upd (upd (upd (upd (upd emp 11 (.string sn)) 10 e) 9 (.iface T (.pointer (some ⟨bb, 0, none⟩)))) 5 (.pointer (some ⟨b5, 0, none⟩))) 1 (.int .i64 n)) ρ ∧ sn.size ≤ 10 ∧ St ⟨w0, V, Vc⟩ w [(bb, .cells cs.toArray E (0, 0)), (b5, .cells (hdrC h).toArray 112 (0, 0))] ∧ w0.heap.size ≤ bb ∧ ErrV A e k ∧ ((∃ r, k = .ok ∧ body l n (kindOfType h.type) h.length = some r ∧ T = bodyT r.kind ∧ BodyC Vc r.kind h.type r cs ∧ 1 ≤ r.kind ∧ r.kind ≤ 13) ∨ (k = .other ∧ body l n (kindOfType h.type) h.length = none))) ?_ ?_))
 refine dP (lp (aR fo_112_1 rfl) rfl (lp (aO rfl (cT k_87 (hs.g 0 rfl) hnl (i := 0) rfl rfl)) rfl (aH (bQ (dP (lp (bI rfl rfl) rfl (dN rfl rfl (aH (bH rfl (fun hc0 => ?_) (fun hc0 => ?_))))))))))
 refine dP (aJ (aX hs z_157 rfl (fun b12 w hb12 he12 hs => aH (dP (dM rfl rfl (dM rfl rfl (aZ ok_160 rfl rfl (c_unpackA hG hs.isIn hb n rfl (by omega) (by omega)) rfl (fun v43 w HF => ?_))))))))
 obtain ⟨cs, e, k, rfl, hc, he, hcl, hcf, hr⟩ := HF
 replace hs := hs.frame hc
 refine dM rfl rfl (dO rfl rfl rfl (dO rfl rfl rfl (aJ (dR 0 hs k_157 rfl rfl rfl hcl (by simp) hcf rfl (fun w hs => dN rfl rfl (aH (dP (lp (cG Tryz.underlying248 (fun _ h => by cases h) rfl) rfl (dN rfl rfl (aH (aB (dN rfl rfl (aH ?_)))))))))))))
 have hty2 : h.type = 1 := by omega
 have hkd : kindOfType h.type = 1 := by rw [hty2]; rfl
 refine ⟨_, b12, _, _, cs, k, e, _, aL rfl (aL rfl (aL rfl (aL rfl (aL rfl (bG _))))), by decide, hs, hb12, he, ?_⟩
 rw [hkd]
 rcases hr with ⟨r, hk, hr⟩ | ⟨hk, hr⟩
 have hbd := (hr h.length).1
 have hkr := body_kind hbd
 refine .inl ⟨r, hk, hbd, ?_, ?_, by omega, by omega⟩
 rw [hkr]; rfl
 rw [hkr]; exact (hr h.length).2
 exact .inr ⟨hk, hr h.length⟩
 refine dP (lp (bI rfl rfl) rfl (dN rfl rfl (aH (bH rfl (fun hc1 => ?_) (fun hc1 => ?_)))))
 refine dP (aJ (aX hs z_163 rfl (fun b13 w hb13 he13 hs => aH (dP (dM rfl rfl (dM rfl rfl (aZ ok_161 rfl rfl (c_unpackNS hG hs.isIn hb n rfl (by omega) (by omega)) rfl (fun v52 w HF => ?_))))))))
 obtain ⟨cs, e, k, rfl, hc, he, hcl, hcf, hr⟩ := HF
 replace hs := hs.frame hc
 refine dM rfl rfl (dO rfl rfl rfl (dO rfl rfl rfl (aJ (dR 0 hs k_163 rfl rfl rfl hcl (by simp) hcf rfl (fun w hs => dN rfl rfl (aH (dP (lp (cG Tryz.underlying250 (fun _ h => by cases h) rfl) rfl (dN rfl rfl (aH (aB (dN rfl rfl (aH ?_)))))))))))))
 have hty2 : h.type = 2 := by omega
 have hkd : kindOfType h.type = 2 := by rw [hty2]; rfl
 refine ⟨_, b13, _, _, cs, k, e, _, aL rfl (aL rfl (aL rfl (aL rfl (aL rfl (bG _))))), by decide, hs, hb13, he, ?_⟩
 rw [hkd]
 rcases hr with ⟨r, hk, hr⟩ | ⟨hk, hr⟩
 have hbd := (hr h.length).1
 have hkr := body_kind hbd
 refine .inl ⟨r, hk, hbd, ?_, ?_, by omega, by omega⟩
 rw [hkr]; rfl
 rw [hkr]; exact (hr h.length).2
 exact .inr ⟨hk, hr h.length⟩
 refine dP (lp (bI rfl rfl) rfl (dN rfl rfl (aH (bH rfl (fun hc2 => ?_) (fun hc2 => ?_)))))
 refine dP (aJ (aX hs z_168 rfl (fun b14 w hb14 he14 hs => aH (dP (dM rfl rfl (dM rfl rfl (aZ ok_162 rfl rfl (c_unpackCNAME hG hs.isIn hb n rfl (by omega) (by omega)) rfl (fun v61 w HF => ?_))))))))
 obtain ⟨cs, e, k, rfl, hc, he, hcl, hcf, hr⟩ := HF
 replace hs := hs.frame hc
 refine dM rfl rfl (dO rfl rfl rfl (dO rfl rfl rfl (aJ (dR 0 hs k_168 rfl rfl rfl hcl (by simp) hcf rfl (fun w hs => dN rfl rfl (aH (dP (lp (cG Tryz.underlying252 (fun _ h => by cases h) rfl) rfl (dN rfl rfl (aH (aB (dN rfl rfl (aH ?_)))))))))))))
 have hty2 : h.type = 5 := by omega
 have hkd : kindOfType h.type = 3 := by rw [hty2]; rfl
 refine ⟨_, b14, _, _, cs, k, e, _, aL rfl (aL rfl (aL rfl (aL rfl (aL rfl (bG _))))), by decide, hs, hb14, he, ?_⟩
 rw [hkd]
 rcases hr with ⟨r, hk, hr⟩ | ⟨hk, hr⟩
 have hbd := (hr h.length).1
 have hkr := body_kind hbd
 refine .inl ⟨r, hk, hbd, ?_, ?_, by omega, by omega⟩
 rw [hkr]; rfl
 rw [hkr]; exact (hr h.length).2
 exact .inr ⟨hk, hr h.length⟩
 refine dP (lp (bI rfl rfl) rfl (dN rfl rfl (aH (bH rfl (fun hc3 => ?_) (fun hc3 => ?_)))))
 refine dP (aJ (aX hs z_173 rfl (fun b15 w hb15 he15 hs => aH (dP (dM rfl rfl (dM rfl rfl (aZ ok_163 rfl rfl (c_unpackSOA hG hs.isIn hb n rfl (by omega) (by omega)) rfl (fun v70 w HF => ?_))))))))
 obtain ⟨cs, e, k, rfl, hc, he, hcl, hcf, hr⟩ := HF
 replace hs := hs.frame hc
 refine dM rfl rfl (dO rfl rfl rfl (dO rfl rfl rfl (aJ (dR 0 hs k_173 rfl rfl rfl hcl (by simp) hcf rfl (fun w hs => dN rfl rfl (aH (dP (lp (cG Tryz.underlying254 (fun _ h => by cases h) rfl) rfl (dN rfl rfl (aH (aB (dN rfl rfl (aH ?_)))))))))))))
 have hty2 : h.type = 6 := by omega
 have hkd : kindOfType h.type = 4 := by rw [hty2]; rfl
 refine ⟨_, b15, _, _, cs, k, e, _, aL rfl (aL rfl (aL rfl (aL rfl (aL rfl (bG _))))), by decide, hs, hb15, he, ?_⟩
 rw [hkd]
 rcases hr with ⟨r, hk, hr⟩ | ⟨hk, hr⟩
 have hbd := (hr h.length).1
 have hkr := body_kind hbd
 refine .inl ⟨r, hk, hbd, ?_, ?_, by omega, by omega⟩
 rw [hkr]; rfl
 rw [hkr]; exact (hr h.length).2
 exact .inr ⟨hk, hr h.length⟩
 refine dP (lp (bI rfl rfl) rfl (dN rfl rfl (aH (bH rfl (fun hc4 => ?_) (fun hc4 => ?_)))))
 refine dP (aJ (aX hs z_178 rfl (fun b16 w hb16 he16 hs => aH (dP (dM rfl rfl (dM rfl rfl (aZ ok_164 rfl rfl (c_unpackPTR hG hs.isIn hb n rfl (by omega) (by omega)) rfl (fun v79 w HF => ?_))))))))
 obtain ⟨cs, e, k, rfl, hc, he, hcl, hcf, hr⟩ := HF
 replace hs := hs.frame hc
 refine dM rfl rfl (dO rfl rfl rfl (dO rfl rfl rfl (aJ (dR 0 hs k_178 rfl rfl rfl hcl (by simp) hcf rfl (fun w hs => dN rfl rfl (aH (dP (lp (cG Tryz.underlying256 (fun _ h => by cases h) rfl) rfl (dN rfl rfl (aH (aB (dN rfl rfl (aH ?_)))))))))))))
 have hty2 : h.type = 12 := by omega
 have hkd : kindOfType h.type = 5 := by rw [hty2]; rfl
 refine ⟨_, b16, _, _, cs, k, e, _, aL rfl (aL rfl (aL rfl (aL rfl (aL rfl (bG _))))), by decide, hs, hb16, he, ?_⟩
 rw [hkd]
 rcases hr with ⟨r, hk, hr⟩ | ⟨hk, hr⟩
 have hbd := (hr h.length).1
 have hkr := body_kind hbd
 refine .inl ⟨r, hk, hbd, ?_, ?_, by omega, by omega⟩
 rw [hkr]; rfl
 rw [hkr]; exact (hr h.length).2
 exact .inr ⟨hk, hr h.length⟩
 refine dP (lp (bI rfl rfl) rfl (dN rfl rfl (aH (bH rfl (fun hc5 => ?_) (fun hc5 => ?_)))))
 refine dP (aJ (aX hs z_183 rfl (fun b17 w hb17 he17 hs => aH (dP (dM rfl rfl (dM rfl rfl (aZ ok_165 rfl rfl (c_unpackMX hG hs.isIn hb n rfl (by omega) (by omega)) rfl (fun v88 w HF => ?_))))))))
 obtain ⟨cs, e, k, rfl, hc, he, hcl, hcf, hr⟩ := HF
 replace hs := hs.frame hc
 refine dM rfl rfl (dO rfl rfl rfl (dO rfl rfl rfl (aJ (dR 0 hs k_183 rfl rfl rfl hcl (by simp) hcf rfl (fun w hs => dN rfl rfl (aH (dP (lp (cG Tryz.underlying258 (fun _ h => by cases h) rfl) rfl (dN rfl rfl (aH (aB (dN rfl rfl (aH ?_)))))))))))))
 have hty2 : h.type = 15 := by omega
 have hkd : kindOfType h.type = 6 := by rw [hty2]; rfl
 refine ⟨_, b17, _, _, cs, k, e, _, aL rfl (aL rfl (aL rfl (aL rfl (aL rfl (bG _))))), by decide, hs, hb17, he, ?_⟩
 rw [hkd]
 rcases hr with ⟨r, hk, hr⟩ | ⟨hk, hr⟩
 have hbd := (hr h.length).1
 have hkr := body_kind hbd
 refine .inl ⟨r, hk, hbd, ?_, ?_, by omega, by omega⟩
 rw [hkr]; rfl
 rw [hkr]; exact (hr h.length).2
 exact .inr ⟨hk, hr h.length⟩
 refine dP (lp (bI rfl rfl) rfl (dN rfl rfl (aH (bH rfl (fun hc6 => ?_) (fun hc6 => ?_)))))
 refine dP (aJ (aX hs z_188 rfl (fun b18 w hb18 he18 hs => aH (dP (dM rfl rfl (dM rfl rfl (lp (aR fo_112_4 rfl) rfl (lp (aO rfl (cT k_22 (hs.g 1 rfl) hnl (i := 3) rfl rfl)) rfl (aZ ok_166 rfl rfl (c_unpackTXT hG hs.isIn hb h.length rfl hlen n rfl (by omega) (by omega)) rfl (fun v99 w HF => ?_))))))))))
 obtain ⟨Vc, cs, e, k, rfl, hc, he, hcl, hcf, hr⟩ := HF
 replace hs := hs.frame hc
 refine dM rfl rfl (dO rfl rfl rfl (dO rfl rfl rfl (aJ (dR 0 hs k_188 rfl rfl rfl hcl (by simp) hcf rfl (fun w hs => dN rfl rfl (aH (dP (lp (cG Tryz.underlying260 (fun _ h => by cases h) rfl) rfl (dN rfl rfl (aH (aB (dN rfl rfl (aH ?_)))))))))))))
 have hty2 : h.type = 16 := by omega
 have hkd : kindOfType h.type = 7 := by rw [hty2]; rfl
 refine ⟨_, b18, _, _, cs, k, e, _, aL rfl (aL rfl (aL rfl (aL rfl (aL rfl (bG _))))), by decide, hs, hb18, he, ?_⟩
 rw [hkd]
 rcases hr with ⟨r, hk, hbd, hr⟩ | ⟨hk, hr⟩
 have hkr := body_kind hbd
 refine .inl ⟨r, hk, hbd, ?_, ?_, by omega, by omega⟩
 rw [hkr]; rfl
 rw [hkr]; exact hr
 exact .inr ⟨hk, hr⟩
 refine dP (lp (bI rfl rfl) rfl (dN rfl rfl (aH (bH rfl (fun hc7 => ?_) (fun hc7 => ?_)))))
 refine dP (aJ (aX hs z_194 rfl (fun b19 w hb19 he19 hs => aH (dP (dM rfl rfl (dM rfl rfl (aZ ok_167 rfl rfl (c_unpackAAAA hG hs.isIn hb n rfl (by omega) (by omega)) rfl (fun v108 w HF => ?_))))))))
 obtain ⟨cs, e, k, rfl, hc, he, hcl, hcf, hr⟩ := HF
 replace hs := hs.frame hc
 refine dM rfl rfl (dO rfl rfl rfl (dO rfl rfl rfl (aJ (dR 0 hs k_194 rfl rfl rfl hcl (by simp) hcf rfl (fun w hs => dN rfl rfl (aH (dP (lp (cG Tryz.underlying262 (fun _ h => by cases h) rfl) rfl (dN rfl rfl (aH (aB (dN rfl rfl (aH ?_)))))))))))))
 have hty2 : h.type = 28 := by omega
 have hkd : kindOfType h.type = 8 := by rw [hty2]; rfl
 refine ⟨_, b19, _, _, cs, k, e, _, aL rfl (aL rfl (aL rfl (aL rfl (aL rfl (bG _))))), by decide, hs, hb19, he, ?_⟩
 rw [hkd]
 rcases hr with ⟨r, hk, hr⟩ | ⟨hk, hr⟩
 have hbd := (hr h.length).1
 have hkr := body_kind hbd
 refine .inl ⟨r, hk, hbd, ?_, ?_, by omega, by omega⟩
 rw [hkr]; rfl
 rw [hkr]; exact (hr h.length).2
 exact .inr ⟨hk, hr h.length⟩
 refine dP (lp (bI rfl rfl) rfl (dN rfl rfl (aH (bH rfl (fun hc8 => ?_) (fun hc8 => ?_)))))
 refine dP (aJ (aX hs z_199 rfl (fun b20 w hb20 he20 hs => aH (dP (dM rfl rfl (dM rfl rfl (aZ ok_168 rfl rfl (c_unpackSRV hG hs.isIn hb n rfl (by omega) (by omega)) rfl (fun v117 w HF => ?_))))))))
 obtain ⟨cs, e, k, rfl, hc, he, hcl, hcf, hr⟩ := HF
 replace hs := hs.frame hc
 refine dM rfl rfl (dO rfl rfl rfl (dO rfl rfl rfl (aJ (dR 0 hs k_199 rfl rfl rfl hcl (by simp) hcf rfl (fun w hs => dN rfl rfl (aH (dP (lp (cG Tryz.underlying264 (fun _ h => by cases h) rfl) rfl (dN rfl rfl (aH (aB (dN rfl rfl (aH ?_)))))))))))))
 have hty2 : h.type = 33 := by omega
 have hkd : kindOfType h.type = 9 := by rw [hty2]; rfl
 refine ⟨_, b20, _, _, cs, k, e, _, aL rfl (aL rfl (aL rfl (aL rfl (aL rfl (bG _))))), by decide, hs, hb20, he, ?_⟩
 rw [hkd]
 rcases hr with ⟨r, hk, hr⟩ | ⟨hk, hr⟩
 have hbd := (hr h.length).1
 have hkr := body_kind hbd
 refine .inl ⟨r, hk, hbd, ?_, ?_, by omega, by omega⟩
 rw [hkr]; rfl
 rw [hkr]; exact (hr h.length).2
 exact .inr ⟨hk, hr h.length⟩
 refine dP (lp (bI rfl rfl) rfl (dN rfl rfl (aH (bH rfl (fun hc9 => ?_) (fun hc9 => ?_)))))
 refine dP (aJ (aX hs z_211 rfl (fun b21 w hb21 he21 hs => aH (dP (dM rfl rfl (dM rfl rfl (lp (aR fo_112_4 rfl) rfl (lp (aO rfl (cT k_22 (hs.g 1 rfl) hnl (i := 3) rfl rfl)) rfl (aZ ok_196 rfl rfl (c_unpackSVCB hG hs.isIn hb h.length rfl hlen n rfl (by omega) (by omega)) rfl (fun v128 w HF => ?_))))))))))
 obtain ⟨Vc, cs, e, k, rfl, hc, he, hcl, hcf, hr⟩ := HF
 replace hs := hs.frame hc
 refine dM rfl rfl (dO rfl rfl rfl (dO rfl rfl rfl (aJ (dR 0 hs k_211 rfl rfl rfl hcl (by simp) hcf rfl (fun w hs => dN rfl rfl (aH (dP (lp (cG Tryz.underlying268 (fun _ h => by cases h) rfl) rfl (dN rfl rfl (aH (aB (dN rfl rfl (aH ?_)))))))))))))
 have hty2 : h.type = 64 := by omega
 have hkd : kindOfType h.type = 11 := by rw [hty2]; rfl
 refine ⟨_, b21, _, _, cs, k, e, _, aL rfl (aL rfl (aL rfl (aL rfl (aL rfl (bG _))))), by decide, hs, hb21, he, ?_⟩
 rw [hkd]
 rcases hr with ⟨r, hk, hbd, hr⟩ | ⟨hk, hr⟩
 have hkr := body_kind hbd
 refine .inl ⟨r, hk, hbd, ?_, ?_, by omega, by omega⟩
 rw [hkr]; rfl
 rw [hkr]; exact hr
 exact .inr ⟨hk, hr⟩
 refine dP (lp (bI rfl rfl) rfl (dN rfl rfl (aH (bH rfl (fun hc10 => ?_) (fun hc10 => ?_)))))
 refine dP (aJ (aX hs z_216 rfl (fun b22 w hb22 he22 hs => aH (dP (dM rfl rfl (dM rfl rfl (lp (aR fo_112_4 rfl) rfl (lp (aO rfl (cT k_22 (hs.g 1 rfl) hnl (i := 3) rfl rfl)) rfl (aZ ok_196 rfl rfl (c_unpackSVCB hG hs.isIn hb h.length rfl hlen n rfl (by omega) (by omega)) rfl (fun v139 w HF => ?_))))))))))
 obtain ⟨Vc, cs, e, k, rfl, hc, he, hcl, hcf, hr⟩ := HF
 replace hs := hs.frame hc
 refine dM rfl rfl (dO rfl rfl rfl (dO rfl rfl rfl (lp (aR fo_216_0 rfl) rfl (aJ (dR 0 hs k_211 rfl rfl rfl hcl (by simp) hcf rfl (fun w hs => dN rfl rfl (aH (dP (lp (cG Tryz.underlying270 (fun _ h => by cases h) rfl) rfl (dN rfl rfl (aH (aB (dN rfl rfl (aH ?_))))))))))))))
 have hty2 : h.type = 65 := by omega
 have hkd : kindOfType h.type = 12 := by rw [hty2]; rfl
 refine ⟨_, b22, _, _, cs, k, e, _, aL rfl (aL rfl (aL rfl (aL rfl (aL rfl (bG _))))), by decide, hs, hb22, he, ?_⟩
 rw [hkd]
 rcases hr with ⟨r, hk, hbd, hr⟩ | ⟨hk, hr⟩
 refine .inl ⟨{ r with kind := 12 }, hk, by rw [body12, hbd]; rfl, rfl, ?_, (by decide : 1 ≤ 12), (by decide : 12 ≤ 13)⟩
 exact hr
 exact .inr ⟨hk, by rw [body12, hr]; rfl⟩
 refine dP (lp (bI rfl rfl) rfl (dN rfl rfl (aH (bH rfl (fun hc11 => ?_) (fun hc11 => ?_)))))
 refine dP (aJ (aX hs z_205 rfl (fun b23 w hb23 he23 hs => aH (dP (dM rfl rfl (dM rfl rfl (lp (aR fo_112_4 rfl) rfl (lp (aO rfl (cT k_22 (hs.g 1 rfl) hnl (i := 3) rfl rfl)) rfl (aZ ok_169 rfl rfl (c_unpackOPT hG hs.isIn hb h.length rfl hlen n rfl (by omega) (by omega)) rfl (fun v151 w HF => ?_))))))))))
 obtain ⟨Vc, cs, e, k, rfl, hc, he, hcl, hcf, hr⟩ := HF
 replace hs := hs.frame hc
 refine dM rfl rfl (dO rfl rfl rfl (dO rfl rfl rfl (aJ (dR 0 hs k_205 rfl rfl rfl hcl (by simp) hcf rfl (fun w hs => dN rfl rfl (aH (dP (lp (cG Tryz.underlying266 (fun _ h => by cases h) rfl) rfl (dN rfl rfl (aH (aB (dN rfl rfl (aH ?_)))))))))))))
 have hty2 : h.type = 41 := by omega
 have hkd : kindOfType h.type = 10 := by rw [hty2]; rfl
 refine ⟨_, b23, _, _, cs, k, e, _, aL rfl (aL rfl (aL rfl (aL rfl (aL rfl (bG _))))), by decide, hs, hb23, he, ?_⟩
 rw [hkd]
 rcases hr with ⟨r, hk, hbd, hr⟩ | ⟨hk, hr⟩
 have hkr := body_kind hbd
 refine .inl ⟨r, hk, hbd, ?_, ?_, by omega, by omega⟩
 rw [hkr]; rfl
 rw [hkr]; exact hr
 exact .inr ⟨hk, hr⟩
 refine dP (aJ (aX hs z_221 rfl (fun b24 w hb24 he24 hs => aH (dP (lp (aR fo_112_1 rfl) rfl (lp (aO rfl (cT k_87 (hs.g 1 rfl) hnl (i := 0) rfl rfl)) rfl (dM rfl rfl (dM rfl rfl (lp (aR fo_112_4 rfl) rfl (lp (aO rfl (cT k_22 (hs.g 1 rfl) hnl (i := 3) rfl rfl)) rfl (aZ ok_172 rfl rfl (c_unpackUnknown hG hs.isIn hb h.type h.length rfl hlen n rfl (by omega) (by omega)) rfl (fun v34 w HF => ?_))))))))))))
 obtain ⟨Vc, cs, e, k, rfl, hc, he, hcl, hcf, hr⟩ := HF
 replace hs := hs.frame hc
 refine dM rfl rfl (dO rfl rfl rfl (dO rfl rfl rfl (aJ (dR 0 hs k_221 rfl rfl rfl hcl (by simp) hcf rfl (fun w hs => dN rfl rfl (aH (dP (lp (cG Tryz.underlying272 (fun _ h => by cases h) rfl) rfl (dN rfl rfl (aH (aB (dN rfl rfl (aH ?_)))))))))))))
 have hkd : kindOfType h.type = 13 := by
  unfold kindOfType
  rw [if_neg (by omega), if_neg (by omega), if_neg (by omega), if_neg (by omega), if_neg (by omega), if_neg (by omega), if_neg (by omega), if_neg (by omega), if_neg (by omega), if_neg (by omega), if_neg (by omega), if_neg (by omega)]
 refine ⟨_, b24, _, _, cs, k, e, _, aL rfl (aL rfl (aL rfl (aL rfl (aL rfl (bG _))))), by decide, hs, hb24, he, ?_⟩
 rw [hkd]
 rcases hr with ⟨r, hk, hbd, hr⟩ | ⟨hk, hr⟩
 have hkr := body_kind hbd
 refine .inl ⟨r, hk, hbd, ?_, ?_, by omega, by omega⟩
 rw [hkr]; rfl
 rw [hkr]; exact hr
 exact .inr ⟨hk, hr⟩
 clear hs
 rintro ρ w ⟨Vc, bb, T, E, cs, k, e, sn, hsub, hsn, hs, hbb, he, hr⟩
 refine EW.weaken hsub (aF (dP (dM rfl rfl (lp (bB he rfl) rfl (aH (bH rfl (fun hc12 => ?_) (fun hc12 => ?_)))))))
 refine dP (dM rfl rfl (dM rfl rfl (lp (po_add_str rfl rfl (Nat.le_trans (Nat.add_le_add_right hsn _) (by decide))) rfl (dM rfl rfl (lp (bL rfl (by (simp only [List.all_cons, List.all_nil, he.oneCell]; rfl)) (bu_141_0_1 _ _)) rfl (aJ (cR hs rfl rfl rfl (fun b162 w hb162 hbe162 hs => ?_))))))))
 replace hs := hs.drop hb162
 refine lp (cG Tryz.underlying139 (fun _ h => by cases h) rfl) rfl (dN rfl rfl (dN rfl rfl (dN rfl rfl (aH (aV ⟨_, res3 rfl rfl rfl, ?_⟩)))))
 have hno : k = .other ∧ body l n (kindOfType h.type) h.length = none := by
  rcases hr with ⟨r, hk, _⟩ | hr
  exact absurd hk hc12
  exact hr
 exact ⟨Vc, _, _, _, .other, rfl, (hs.drop hbb).drop hb5, dA, .inr ⟨rfl, hno.2, rfl, rfl⟩⟩
 have hk : k = .ok := by simpa using hc12
 subst hk
 obtain ⟨r, hbd, hT, hBC, hk1, hk2⟩ : ∃ r, body l n (kindOfType h.type) h.length = some r ∧ T = bodyT r.kind ∧ BodyC Vc r.kind h.type r cs ∧ 1 ≤ r.kind ∧ r.kind ≤ 13 := by
  rcases hr with ⟨r, _, hr⟩ | ⟨hk, _⟩
  exact ⟨r, hr⟩
  cases hk
 subst hT
 refine aW (aF (bV hs [3] mixed (fun w hs => dI 0 rfl (fun w => aC rfl) rfl rfl (dI 1 rfl (fun w => aC rfl) rfl rfl (dI 2 rfl (fun w => aR fo_112_4 rfl) rfl rfl (dJ 3 rfl hs rfl (fun w hs => (aO rfl (cT k_22 (hs.g 1 rfl) hnl (i := 3) rfl rfl))) rfl (dI 4 rfl (fun w => (bY Tryz.underlying22 Tryz.underlying3 rfl (i64c (c := h.length) rfl (by omega)))) rfl rfl (dI 5 rfl (fun w => (bN rfl rfl (i64c (c := n + h.length) (by omega) (by omega)))) rfl rfl (dI 6 rfl (fun w => aD rfl) rfl rfl (dI 7 rfl (fun w => aD rfl) rfl rfl (dI 8 rfl (fun w => aD rfl) rfl rfl (bS (by decide +kernel) (aV ?_)))))))))))))
 refine ⟨_, res3 rfl rfl rfl, ?_⟩
 obtain ⟨V', hle, hbv, hs⟩ := hs.give hbb
 exact ⟨V', _, _, _, .ok, rfl, hs.drop hb5, rfl, .inl ⟨r, rfl, hbd, ⟨bb, cs, E, rfl, hbv, hBC.mono hle, hk1, hk2⟩, rfl⟩⟩
end
end Go.Proofs.YtgpfjlfkaoffeaaGreatDoor
namespace Go.Proofs.YtgpfjlfkaoffeaaGreatDoor
open Go
def RRes (V : Vw) (x : PRec) (c : List Value) : Prop := ∃ h r bv, x = whole r h ∧ c = hdrC h ++ [bv] ∧ RBody V h.type bv r ∧ h.name.length ≤ 254 ∧ GoodR r
theorem RRes.mono {V V' : Vw} (hV : V.le V') {x : PRec} {c : List Value} (h : RRes V x c) : RRes V' x c := by
 obtain ⟨a, r, bv, h1, h2, h3, h4⟩ := h
 exact ⟨a, r, bv, h1, h2, h3.mono hV, h4⟩
theorem RRes.flat {V : Vw} {x : PRec} {c : List Value} (h : RRes V x c) : c.length = 261 ∧ Flat c := by
 obtain ⟨a, r, bv, h1, rfl, ⟨b, cs, E, rfl, _⟩, h4, _⟩ := h
 exact ⟨by rw [List.length_append, hdrC_len h4]; rfl, flat_app (flat_hdrC _) (bX rfl flat_nil)⟩
theorem beginM_ok {l : List UInt8} {m m' : PM} {s : Nat} {ro : Option PRec} (h : beginM l m s = (.ok, ro, m')) :
  ∃ r o m2, advance l (m1Of m) s = (.ok, m2) ∧ header l m2.at_ = some (r, o) ∧ ro = some r ∧ m' = { m2 with valid := true, headAt := m2.at_, htype := r.type, hlen := r.length, at_ := o } := by
 obtain ⟨k, m2, hadv⟩ : ∃ k m2, advance l (m1Of m) s = (k, m2) := ⟨_, _, rfl⟩
 by_cases hk : k = .ok
 subst hk
 cases hh : header l m2.at_ with
 | none => rw [beginM_none hadv hh] at h; cases h
 | some p =>
  obtain ⟨r, o⟩ := p
  rw [beginM_some hadv hh] at h
  cases h
  exact ⟨r, o, m2, hadv, hh, rfl, rfl⟩
 rw [beginM_bad hadv hk] at h
 cases h
 exact absurd rfl hk
theorem recordM_bad {l : List UInt8} {m m' : PM} {s : Nat} {k : EK} {ro : Option PRec} (h : beginM l m s = (k, ro, m')) (hk : k ≠ .ok) : recordM l m s = (k, none, m') := by
 unfold recordM
 rw [h]
 cases k <;> first | rfl | exact absurd rfl hk
theorem recordM_some {l : List UInt8} {m m' : PM} {s : Nat} {h r : PRec} (hb : beginM l m s = (.ok, some h, m')) (hbd : body l m'.at_ (kindOfType h.type) h.length = some r) :
  recordM l m s = (.ok, some (whole r h), { m' with valid := false, at_ := m'.at_ + h.length, index := m'.index + 1 }) := by
 unfold recordM
 rw [hb]
 simp only [hbd]
theorem recordM_none {l : List UInt8} {m m' : PM} {s : Nat} {h : PRec} (hb : beginM l m s = (.ok, some h, m')) (hbd : body l m'.at_ (kindOfType h.type) h.length = none) :
  recordM l m s = (.other, none, { m' with valid := false }) := by
 unfold recordM
 rw [hb]
 simp only [hbd]
theorem kind_pos (t : Nat) : 1 ≤ kindOfType t ∧ kindOfType t ≤ 13 := by
 unfold kindOfType
 repeat' split
 all_goals omega
section
variable {A : Nat → Addr} {V : Vw} {w0 : World} {l : List UInt8} {mv : Value} {bp : Nat} {E : TypeId}
set_option maxHeartbeats 1000000 in
theorem c_resource (hG : Gl A V) (hV : V.In w0) (hb : RB V mv l) {m : PM} {cs : List Value} (hown : w0.heap[bp]? = some (.cells cs.toArray E (0, 0))) (hvn : V bp = none) (hp : PR l mv m cs) (hwf : WF l m) (h2l : l.length ≤ 4294967296)
  (s : Nat) {sv : Int} (hsv : sv = (s + 1 : Nat)) (h1 : 1 ≤ s) (h2 : s ≤ 4) :
  CallsV Tryz.prog 158 #[.pointer (some ⟨bp, 0, none⟩), .int .u8 sv] w0 fun v w' => ∃ (V' : Vw) (cs' rcs : List Value) (e : Value) (k : EK) (ro : Option PRec) (m' : PM), v = .tuple #[.agg rcs.toArray, e] ∧
   St ⟨w0, V, V'⟩ w' [(bp, .cells cs'.toArray E (0, 0))] ∧ recordM l m s = (k, ro, m') ∧ PR l mv m' cs' ∧ ErrV A e k ∧ rcs.length = 261 ∧ Flat rcs ∧ (k = .ok → ∃ x, ro = some x ∧ RRes V' x rcs) := by
 subst hsv
 have hs := St.start1 hV hown (bU _ _) hvn
 have hz : rep 256 (Value.int .u8 0) ++ [.int .u16 0, .int .u16 0, .int .u32 0, .int .u16 0, .nilIface] = hdrC {} ++ [.nilIface] := by rw [rep256]; exact (List.append_assoc (nmC [] 0) [.int .u16 0, .int .u16 0, .int .u32 0, .int .u16 0] [.nilIface]).symm
 have hzl : (hdrC {} ++ [Value.nilIface]).length = 261 := by rw [List.length_append, hdrC_len (by simp)]; rfl
 have hzf : Flat (hdrC {} ++ [Value.nilIface]) := flat_app (flat_hdrC _) (bX rfl flat_nil)
 refine aT [_, _] Tryz.func158 Tryz.ntmps158 Tryz.results158 rfl rfl (dP (aJ (aX hs z_116 rfl (fun b4 w hb4 he4 hs => ?_))))
 rw [hz] at hs
 refine dN rfl rfl (aH (dP (aJ (aX hs z_116 rfl (fun b6 w hb6 he6 hs => ?_)))))
 rw [hz] at hs
 refine aH (dP (dN rfl rfl (aH (dP (dM rfl rfl (dM rfl rfl (aZ ok_157 rfl rfl (c_resourceHeader hG hs.isIn hb (hs.g 2 rfl) (hs.off (k := 2) rfl) hp hwf h2l s rfl h1 h2) rfl (fun v11 w HF => ?_))))))))
 obtain ⟨cs', hcs, e, k, ro, m', rfl, hc, hbeg, hp, he, hr⟩ := HF
 replace hs := hs.frame1 (k := 2) rfl rfl hc
 have hcl : hcs.length = 260 ∧ Flat hcs := by
  rcases hr with ⟨r, _, _, rfl, hn⟩ | ⟨_, rfl⟩
  exact ⟨hdrC_len hn, flat_hdrC _⟩
  exact ⟨hdrC_len (by simp), flat_hdrC _⟩
 refine dM rfl rfl (dO rfl rfl rfl (dO rfl rfl rfl (lp (aR fo_116_0 rfl) rfl (aJ (o_storeHd (k := 0) hs k_112 rfl rfl rfl (hdrC_len (by simp)) hcl.1 hcl.2 rfl (fun w hs => ?_))))))
 have hrl : (hcs ++ [Value.nilIface]).length = 261 := by rw [List.length_append, hcl.1]; rfl
 have hrf : Flat (hcs ++ [Value.nilIface]) := flat_app hcl.2 (bX rfl flat_nil)
 refine dN rfl rfl (aH (aF (dP (dM rfl rfl (lp (bB he rfl) rfl (aH (bH rfl (fun hc0 => ?_) (fun hc0 => ?_))))))))
 refine dP (lp (aO rfl (aP k_116 (hs.g 0 rfl) hrl)) rfl (dM rfl rfl (aJ (dR 1 hs k_116 rfl rfl rfl hrl hzl hrf rfl (fun w hs => dN rfl rfl (aH (aV ⟨_, res2 ⟨_, rfl, aP k_116 (hs.g 1 rfl) hrl⟩ rfl, ?_⟩)))))))
 exact ⟨V, _, _, _, k, none, m', rfl, (hs.drop hb6).drop hb4, recordM_bad hbeg hc0, hp, he, hrl, hrf, fun h => absurd h hc0⟩
 · have hk : k = .ok := by simpa using hc0
   subst hk
   obtain ⟨h, hro, rfl, hnm⟩ : ∃ r, ro = some r ∧ hcs = hdrC r ∧ r.name.length ≤ 254 := by
    rcases hr with ⟨r, _, h⟩ | ⟨h, _⟩
    exact ⟨r, h⟩
    exact absurd rfl h
   subst hro
   obtain ⟨r', o, m2, hadv, hhd, hre, hm'⟩ := beginM_ok hbeg
   cases hre
   obtain ⟨hss, hm2, hidx⟩ := advance_ok hadv
   rw [m1Of_sec] at hss
   have hhs := header_some hhd
   have hsec : m'.sec = s := by rw [hm', hm2]; simp only; rw [m1Of_sec]; exact hss
   have hat : m'.at_ ≤ l.length := by rw [hm']; exact hhs.2.1
   have hix : m'.index ≤ 65535 := by
    have e1 : m'.index = m.index := by rw [hm', hm2]; simp only [m1Of]; split <;> rfl
    have := hwf.idx (by omega) (by omega)
    have := cW l m.sec
    omega
   obtain rfl := hp.get (by omega)
   refine aW (dP (dM rfl rfl (lp (aN rfl) rfl (lp (aR fo_100_5 rfl) rfl (aJ (dQ 2 hs k_4 rfl rfl rfl rfl rfl rfl rfl (fun w hs => aH (aF (bV hs [4, 8, 10] mixed (fun w hs => dI 0 rfl (fun w => aC rfl) rfl rfl (dI 1 rfl (fun w => aC rfl) rfl rfl (dI 2 rfl (fun w => aN rfl) rfl rfl (dI 3 rfl (fun w => aR fo_100_0 rfl) rfl rfl (dJ 4 rfl hs rfl (fun w hs => (aO rfl (aQ k_23 (hs.g 2 rfl) rfl))) rfl ?_))))))))))))))
   refine dI 5 rfl (fun w => aC rfl) rfl rfl (dI 6 rfl (fun w => aN rfl) rfl rfl (dI 7 rfl (fun w => aR fo_100_3 rfl) rfl rfl (dJ 8 rfl hs rfl (fun w hs => (aO rfl (aQ cH (hs.g 2 rfl) rfl))) rfl (dI 9 rfl (fun w => aR fo_116_0 rfl) rfl rfl (dJ 10 rfl hs rfl (fun w hs => (aO rfl (ld_hd k_112 (hs.g 0 rfl) (hdrC_len hnm)))) rfl (dL 11 rfl (cF (cD rfl rfl ok_191 (c_unpackBody hG hs.isIn hb h hnm hhs.2.2.1 hhs.2.2.2 m'.at_ rfl (by omega) (by omega))) rfl (fun v34 w HF => ?_))))))))
   obtain ⟨V', bv, e, o2, k, rfl, hc, he, hr⟩ := HF
   replace hs := hs.frame hc
   have hbv1 : bv.oneCell' = true := by
    rcases hr with ⟨r, _, _, ⟨b, cs, E, rfl, _⟩, _⟩ | ⟨_, _, rfl, _⟩ <;> rfl
   refine ⟨fun h => absurd h (by decide +kernel), dI 12 rfl (fun w => aC rfl) rfl rfl (dI 13 rfl (fun w => aI rfl rfl) rfl rfl (dI 14 rfl (fun w => aI rfl rfl) rfl rfl (dI 15 rfl (fun w => aI rfl rfl) rfl rfl (dI 16 rfl (fun w => aR fo_116_1 rfl) rfl rfl (dL 17 rfl (o_storeP (k := 0) hs k_114 rfl rfl rfl hbv1 rfl (by rw [List.length_append, hdrC_len hnm]; decide) (set_behind (i := 0) (hdrC_len hnm) _) rfl (fun w hs => ?_)))))))⟩
   have hrl : (hdrC h ++ [bv]).length = 261 := by rw [List.length_append, hdrC_len hnm]; rfl
   have hrf : Flat (hdrC h ++ [bv]) := flat_app (flat_hdrC _) (bX hbv1 flat_nil)
   refine ⟨fun h => absurd h (by decide +kernel), dI 18 rfl (fun w => aN rfl) rfl rfl (dI 19 rfl (fun w => aR fo_100_3 rfl) rfl rfl (dL 20 rfl (dQ 2 hs cH rfl rfl rfl rfl rfl rfl rfl (fun w hs => ⟨fun h => absurd h (by decide +kernel), dI 21 rfl (fun w => aD rfl) rfl rfl (bS (by decide +kernel) (aF (dP (dM rfl rfl (lp (bB he rfl) rfl (aH (bH rfl (fun hc1 => ?_) (fun hc1 => ?_))))))))⟩))))⟩
   · refine aF ?_
     obtain ⟨mm, es, ec, hse1, hse2, hse3⟩ := (hG.mono hs.view).sec
     obtain ⟨sn, hsn, hlk⟩ := secName hse2 hse3 (s + 1 : Nat)
     refine bV hs [1, 3] mixed (fun w hs => dI 0 rfl (fun w => (bM (vs := []) (ps := []) rfl bz_116)) rfl rfl ?_)
     rw [hz]
     refine dJ 1 rfl hs rfl (fun w hs => (aO rfl (bR k_336 (Vw.cell_in hs.isIn hse1)))) rfl (dI 2 rfl (fun w => aC rfl) rfl rfl (dJ 3 rfl hs rfl (fun w hs => (hlk _ _ _ _ hs.isIn rfl rfl)) rfl (dI 4 rfl (fun w => (po_add_str rfl rfl (Nat.le_trans (Nat.add_le_add_left hsn _) (by decide)))) rfl rfl (dI 5 rfl (fun w => aC rfl) rfl rfl (dI 6 rfl (fun w => (bL rfl (by (simp only [List.all_cons, List.all_nil, he.oneCell]; rfl)) (bu_141_0_1 _ _))) rfl rfl (a_two 7 9 (by decide +kernel) rfl rfl ?_ ?_))))))
     refine cR hs rfl rfl rfl (fun b50 w hb50 hbe50 hs => ?_)
     replace hs := hs.drop hb50
     refine ⟨fun _ => hs, dI 8 rfl (fun w => (cG Tryz.underlying139 (fun _ h => by cases h) rfl)) rfl rfl (dL 9 rfl (dR 1 hs k_116 rfl rfl rfl hzl hzl hzf rfl (fun w hs => ⟨fun _ => hs, ?_⟩)))⟩
     rotate_left
     refine dR 1 hs k_116 rfl rfl rfl hzl hzl hzf rfl (fun w hs => ⟨fun _ => hs, dL 7 rfl (cR hs rfl rfl rfl (fun b50 w hb50 hbe50 hs => ?_))⟩)
     replace hs := hs.drop hb50
     refine ⟨fun _ => hs, dI 8 rfl (fun w => (cG Tryz.underlying139 (fun _ h => by cases h) rfl)) rfl rfl ?_⟩
     all_goals
      refine dI 10 rfl (fun w => aD rfl) rfl rfl (bS (by decide +kernel) (aV ⟨_, res2 ⟨_, rfl, aP k_116 (hs.g 1 rfl) hzl⟩ rfl, ?_⟩))
      have hno : body l m'.at_ (kindOfType h.type) h.length = none ∧ o2 = m'.at_ := by
       rcases hr with ⟨r, hk, _⟩ | ⟨_, h1, _, h2⟩
       exact absurd hk hc1
       exact ⟨h1, h2⟩
      obtain ⟨hno, rfl⟩ := hno
      exact ⟨V', _, _, _, .other, none, _, rfl, (hs.drop hb6).drop hb4, recordM_none hbeg hno, PR.mk rfl, dA, hzl, hzf, fun h => by cases h⟩
   have hk : k = .ok := by simpa using hc1
   subst hk
   obtain ⟨r, hbd, hRB, rfl⟩ : ∃ r, body l m'.at_ (kindOfType h.type) h.length = some r ∧ RBody V' h.type bv r ∧ o2 = m'.at_ + h.length := by
    rcases hr with ⟨r, _, h⟩ | ⟨h, _⟩
    exact ⟨r, h⟩
    cases h
   refine aW (dP (dM rfl rfl (lp (aN rfl) rfl (lp (aR fo_100_4 rfl) rfl (lp (aO rfl (aQ cH (hs.g 2 rfl) rfl)) rfl (lp (bN rfl rfl (i64c (c := m'.index + 1) (by omega) (by omega))) rfl (lp (aN rfl) rfl (lp (aR fo_100_4 rfl) rfl (aJ (dQ 2 hs cH rfl rfl rfl rfl rfl rfl rfl (fun w hs => aH (dP (lp (aO rfl (aP k_116 (hs.g 0 rfl) hrl)) rfl (aJ (dR 1 hs k_116 rfl rfl rfl hrl hzl hrf rfl (fun w hs => ?_))))))))))))))))
   refine dN rfl rfl (aH (aV ⟨_, res2 ⟨_, rfl, aP k_116 (hs.g 1 rfl) hrl⟩ rfl, ?_⟩))
   exact ⟨V', _, _, _, .ok, _, _, rfl, (hs.drop hb6).drop hb4, recordM_some hbeg hbd, PR.mk rfl, rfl, hrl, hrf, fun _ => ⟨_, rfl, h, r, bv, rfl, rfl, hRB, hnm, body_good hbd (by have := hhs.2.2.2; omega) (kind_pos _).1 (kind_pos _).2 (body_kind hbd)⟩⟩
end
end Go.Proofs.YtgpfjlfkaoffeaaGreatDoor

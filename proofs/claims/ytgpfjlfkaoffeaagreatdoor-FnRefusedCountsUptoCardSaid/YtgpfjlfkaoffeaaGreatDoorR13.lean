/- The body of a record, by its type. The parser: a record read, a record passed over. What holds of a machine goes on holding. Plain laws of the model: bytes behind a message that is read change nothing. Plain laws of the model: all records of a section are those that are read one by one. -/
import Derived.Test.YtgpfjlfkaoffeaaGreatDoorR12
import Derived.Test.YtgpfjlfkaoffeaaGreatDoorR06
set_option linter.all false
namespace Go.Proofs.YtgpfjlfkaoffeaaGreatDoor
open Go
def bodyT (kind : Nat) : Nat :=
 match kind with
 | 1 => 248
 | 2 => 250
 | 3 => 252
 | 4 => 254
 | 5 => 256
 | 6 => 258
 | 7 => 260
 | 8 => 262
 | 9 => 264
 | 11 => 268
 | 12 => 270
 | 10 => 266
 | 13 => 272
 | _ => 0
def RBody (V : Vw) (t : Nat) (v : Value) (r : fY) : Prop :=
 ∃ b cs E, v = .iface (bodyT r.kind) (.pointer (some ⟨b, 0, none⟩)) ∧ V b = some (.cells cs.toArray E (0, 0)) ∧ fL V r.kind t r cs ∧ 1 ≤ r.kind ∧ r.kind ≤ 13
theorem fL.mono {V V' : Vw} (hV : V.le V') {kind t : Nat} {r : fY} {cs : List Value} (h : fL V kind t r cs) : fL V' kind t r cs := by
 unfold fL at *
 split at h
 all_goals first
  | exact h
  | (obtain ⟨v, h1, h2⟩ := h; exact ⟨v, h1, h2.mono hV⟩)
  | (obtain ⟨v, h1, h2, h3, h4⟩ := h; exact ⟨v, h1, h2, h3, h4.mono hV⟩)
theorem RBody.mono {V V' : Vw} (hV : V.le V') {t : Nat} {v : Value} {r : fY} (h : RBody V t v r) : RBody V' t v r := by
 obtain ⟨b, cs, E, h1, h2, h3, h4⟩ := h
 exact ⟨b, cs, E, h1, hV _ _ h2, h3.mono hV, h4⟩
theorem body_kind {b : List UInt8} {i kind len : Nat} {r : fY} (h : body b i kind len = some r) : r.kind = kind := by
 unfold body at h
 split at h
 all_goals
  simp only [Option.map_eq_some_iff, Option.bind_eq_some_iff] at h
  repeat (obtain ⟨_, _, h⟩ := h)
  rfl
theorem body12 {b : List UInt8} {i len : Nat} : body b i 12 len = (body b i 11 len).map fun r => { r with kind := 12 } := by
 simp only [body]
 cases rd16 b i with
 | none => rfl
 | some n1 =>
  cases name b (i + 2) with
  | none => rfl
  | some h => simp only [Option.bind_some]; cases parsS b h.2 (i + len) [] <;> rfl
section
variable {A : Nat → Addr} {V : Vw} {w0 : World} {l : List UInt8} {mv : Value} {off : Int}
set_option maxHeartbeats 4000000 in
theorem c_unpackBody (hG : Gl A V) (hV : V.In w0) (hb : RB V mv l) (h : fY) (hnm : h.name.length ≤ 254) (hty : h.type < 65536) (hlen : h.length < 65536) (n : Nat) (hn : off = n) (h1 : n ≤ 1152921504606700000) (h2 : l.length ≤ 1152921504606700000) :
  eC Tryz.prog 191 #[mv, .int .i64 off, .agg (hdrC h).toArray] w0 fun v w' => ∃ (V' : Vw) (bv e : Value) (o : Nat) (k : EK), v = .tuple #[bv, .int .i64 o, e] ∧ St ⟨w0, V, V'⟩ w' [] ∧ ErrV A e k ∧
   ((∃ r, k = .ok ∧ body l n (eE h.type) h.length = some r ∧ RBody V' h.type bv r ∧ o = n + h.length) ∨ (k = .other ∧ body l n (eE h.type) h.length = none ∧ bv = .nilIface ∧ o = n)) := by
 subst hn
 have hs := St.start hV
 have hnl := cM (out := h.name) (n := h.name.length) (by omega)
 refine aT [_, _, _] Tryz.func191 Tryz.ntmps191 Tryz.results191 rfl rfl (dP (aJ (cR hs rfl rfl rfl (fun b5 w hb5 hbe5 hs => dN rfl rfl (dN rfl rfl (dN rfl rfl (aH (dP (dN rfl rfl (aH (dP (dN rfl rfl (aH (dP ?_))))))))))))))
 refine dN rfl rfl (aH (dG (fun ρ w => ∃ (Vc : Vw) (bb T E : Nat) (cs : List Value) (k : EK) (e : Value) (sn : ByteArray), Sub (eH (eH (eH (eH (eH emp 11 (.string sn)) 10 e) 9 (.iface T (.pointer (some ⟨bb, 0, none⟩)))) 5 (.pointer (some ⟨b5, 0, none⟩))) 1 (.int .i64 n)) ρ ∧ sn.size ≤ 10 ∧ St ⟨w0, V, Vc⟩ w [(bb, .cells cs.toArray E (0, 0)), (b5, .cells (hdrC h).toArray 112 (0, 0))] ∧ w0.heap.size ≤ bb ∧ ErrV A e k ∧ ((∃ r, k = .ok ∧ body l n (eE h.type) h.length = some r ∧ T = bodyT r.kind ∧ fL Vc r.kind h.type r cs ∧ 1 ≤ r.kind ∧ r.kind ≤ 13) ∨ (k = .other ∧ body l n (eE h.type) h.length = none))) ?_ ?_))
 refine dP (lp (aR fo_112_1 rfl) rfl (lp (aO rfl (cT k_87 (hs.g 0 rfl) hnl (i := 0) rfl rfl)) rfl (aH (bQ (dP (lp (bI rfl rfl) rfl (dN rfl rfl (aH (bH rfl (fun hc0 => ?_) (fun hc0 => ?_))))))))))
 refine dP (aJ (aX hs z_157 rfl (fun b12 w hb12 he12 hs => aH (dP (dM rfl rfl (dM rfl rfl (aZ ok_160 rfl rfl (c_unpackA hG hs.isIn hb n rfl (by omega) (by omega)) rfl (fun v43 w HF => ?_))))))))
 obtain ⟨cs, e, k, rfl, hc, he, hcl, hcf, hr⟩ := HF
 replace hs := hs.frame hc
 refine dM rfl rfl (dO rfl rfl rfl (dO rfl rfl rfl (aJ (dR 0 hs k_157 rfl rfl rfl hcl (by simp) hcf rfl (fun w hs => dN rfl rfl (aH (dP (lp (cG Tryz.underlying248 (fun _ h => by cases h) rfl) rfl (dN rfl rfl (aH (aB (dN rfl rfl (aH ?_)))))))))))))
 have hty2 : h.type = 1 := by omega
 have hkd : eE h.type = 1 := by rw [hty2]; rfl
 refine ⟨_, b12, _, _, cs, k, e, _, aL rfl (aL rfl (aL rfl (aL rfl (aL rfl (bG _))))), by decide, hs, hb12, he, ?_⟩
 rw [hkd]
 rcases hr with ⟨r, hk, hr⟩ | ⟨hk, hr⟩
 have hbd := (hr h.length).1
 have hkr := body_kind hbd
 refine .inl ⟨r, hk, hbd, ?_, ?_, by omega, by omega⟩
 rw [hkr]; rfl
 rw [hkr]; exact (hr h.length).2
 exact .inr ⟨hk, hr h.length⟩
 refine dP (lp (bI rfl rfl) rfl (dN rfl rfl (aH (bH rfl (fun hc1 => ?_) (fun hc1 => ?_)))))
 refine dP (aJ (aX hs z_163 rfl (fun b13 w hb13 he13 hs => aH (dP (dM rfl rfl (dM rfl rfl (aZ ok_161 rfl rfl (c_unpackNS hG hs.isIn hb n rfl (by omega) (by omega)) rfl (fun v52 w HF => ?_))))))))
 obtain ⟨cs, e, k, rfl, hc, he, hcl, hcf, hr⟩ := HF
 replace hs := hs.frame hc
 refine dM rfl rfl (dO rfl rfl rfl (dO rfl rfl rfl (aJ (dR 0 hs k_163 rfl rfl rfl hcl (by simp) hcf rfl (fun w hs => dN rfl rfl (aH (dP (lp (cG Tryz.underlying250 (fun _ h => by cases h) rfl) rfl (dN rfl rfl (aH (aB (dN rfl rfl (aH ?_)))))))))))))
 have hty2 : h.type = 2 := by omega
 have hkd : eE h.type = 2 := by rw [hty2]; rfl
 refine ⟨_, b13, _, _, cs, k, e, _, aL rfl (aL rfl (aL rfl (aL rfl (aL rfl (bG _))))), by decide, hs, hb13, he, ?_⟩
 rw [hkd]
 rcases hr with ⟨r, hk, hr⟩ | ⟨hk, hr⟩
 have hbd := (hr h.length).1
 have hkr := body_kind hbd
 refine .inl ⟨r, hk, hbd, ?_, ?_, by omega, by omega⟩
 rw [hkr]; rfl
 rw [hkr]; exact (hr h.length).2
 exact .inr ⟨hk, hr h.length⟩
 refine dP (lp (bI rfl rfl) rfl (dN rfl rfl (aH (bH rfl (fun hc2 => ?_) (fun hc2 => ?_)))))
 refine dP (aJ (aX hs z_168 rfl (fun b14 w hb14 he14 hs => aH (dP (dM rfl rfl (dM rfl rfl (aZ ok_162 rfl rfl (c_unpackCNAME hG hs.isIn hb n rfl (by omega) (by omega)) rfl (fun v61 w HF => ?_))))))))
 obtain ⟨cs, e, k, rfl, hc, he, hcl, hcf, hr⟩ := HF
 replace hs := hs.frame hc
 refine dM rfl rfl (dO rfl rfl rfl (dO rfl rfl rfl (aJ (dR 0 hs k_168 rfl rfl rfl hcl (by simp) hcf rfl (fun w hs => dN rfl rfl (aH (dP (lp (cG Tryz.underlying252 (fun _ h => by cases h) rfl) rfl (dN rfl rfl (aH (aB (dN rfl rfl (aH ?_)))))))))))))
 have hty2 : h.type = 5 := by omega
 have hkd : eE h.type = 3 := by rw [hty2]; rfl
 refine ⟨_, b14, _, _, cs, k, e, _, aL rfl (aL rfl (aL rfl (aL rfl (aL rfl (bG _))))), by decide, hs, hb14, he, ?_⟩
 rw [hkd]
 rcases hr with ⟨r, hk, hr⟩ | ⟨hk, hr⟩
 have hbd := (hr h.length).1
 have hkr := body_kind hbd
 refine .inl ⟨r, hk, hbd, ?_, ?_, by omega, by omega⟩
 rw [hkr]; rfl
 rw [hkr]; exact (hr h.length).2
 exact .inr ⟨hk, hr h.length⟩
 refine dP (lp (bI rfl rfl) rfl (dN rfl rfl (aH (bH rfl (fun hc3 => ?_) (fun hc3 => ?_)))))
 refine dP (aJ (aX hs z_173 rfl (fun b15 w hb15 he15 hs => aH (dP (dM rfl rfl (dM rfl rfl (aZ ok_163 rfl rfl (c_unpackSOA hG hs.isIn hb n rfl (by omega) (by omega)) rfl (fun v70 w HF => ?_))))))))
 obtain ⟨cs, e, k, rfl, hc, he, hcl, hcf, hr⟩ := HF
 replace hs := hs.frame hc
 refine dM rfl rfl (dO rfl rfl rfl (dO rfl rfl rfl (aJ (dR 0 hs k_173 rfl rfl rfl hcl (by simp) hcf rfl (fun w hs => dN rfl rfl (aH (dP (lp (cG Tryz.underlying254 (fun _ h => by cases h) rfl) rfl (dN rfl rfl (aH (aB (dN rfl rfl (aH ?_)))))))))))))
 have hty2 : h.type = 6 := by omega
 have hkd : eE h.type = 4 := by rw [hty2]; rfl
 refine ⟨_, b15, _, _, cs, k, e, _, aL rfl (aL rfl (aL rfl (aL rfl (aL rfl (bG _))))), by decide, hs, hb15, he, ?_⟩
 rw [hkd]
 rcases hr with ⟨r, hk, hr⟩ | ⟨hk, hr⟩
 have hbd := (hr h.length).1
 have hkr := body_kind hbd
 refine .inl ⟨r, hk, hbd, ?_, ?_, by omega, by omega⟩
 rw [hkr]; rfl
 rw [hkr]; exact (hr h.length).2
 exact .inr ⟨hk, hr h.length⟩
 refine dP (lp (bI rfl rfl) rfl (dN rfl rfl (aH (bH rfl (fun hc4 => ?_) (fun hc4 => ?_)))))
 refine dP (aJ (aX hs z_178 rfl (fun b16 w hb16 he16 hs => aH (dP (dM rfl rfl (dM rfl rfl (aZ ok_164 rfl rfl (c_unpackPTR hG hs.isIn hb n rfl (by omega) (by omega)) rfl (fun v79 w HF => ?_))))))))
 obtain ⟨cs, e, k, rfl, hc, he, hcl, hcf, hr⟩ := HF
 replace hs := hs.frame hc
 refine dM rfl rfl (dO rfl rfl rfl (dO rfl rfl rfl (aJ (dR 0 hs k_178 rfl rfl rfl hcl (by simp) hcf rfl (fun w hs => dN rfl rfl (aH (dP (lp (cG Tryz.underlying256 (fun _ h => by cases h) rfl) rfl (dN rfl rfl (aH (aB (dN rfl rfl (aH ?_)))))))))))))
 have hty2 : h.type = 12 := by omega
 have hkd : eE h.type = 5 := by rw [hty2]; rfl
 refine ⟨_, b16, _, _, cs, k, e, _, aL rfl (aL rfl (aL rfl (aL rfl (aL rfl (bG _))))), by decide, hs, hb16, he, ?_⟩
 rw [hkd]
 rcases hr with ⟨r, hk, hr⟩ | ⟨hk, hr⟩
 have hbd := (hr h.length).1
 have hkr := body_kind hbd
 refine .inl ⟨r, hk, hbd, ?_, ?_, by omega, by omega⟩
 rw [hkr]; rfl
 rw [hkr]; exact (hr h.length).2
 exact .inr ⟨hk, hr h.length⟩
 refine dP (lp (bI rfl rfl) rfl (dN rfl rfl (aH (bH rfl (fun hc5 => ?_) (fun hc5 => ?_)))))
 refine dP (aJ (aX hs z_183 rfl (fun b17 w hb17 he17 hs => aH (dP (dM rfl rfl (dM rfl rfl (aZ ok_165 rfl rfl (c_unpackMX hG hs.isIn hb n rfl (by omega) (by omega)) rfl (fun v88 w HF => ?_))))))))
 obtain ⟨cs, e, k, rfl, hc, he, hcl, hcf, hr⟩ := HF
 replace hs := hs.frame hc
 refine dM rfl rfl (dO rfl rfl rfl (dO rfl rfl rfl (aJ (dR 0 hs k_183 rfl rfl rfl hcl (by simp) hcf rfl (fun w hs => dN rfl rfl (aH (dP (lp (cG Tryz.underlying258 (fun _ h => by cases h) rfl) rfl (dN rfl rfl (aH (aB (dN rfl rfl (aH ?_)))))))))))))
 have hty2 : h.type = 15 := by omega
 have hkd : eE h.type = 6 := by rw [hty2]; rfl
 refine ⟨_, b17, _, _, cs, k, e, _, aL rfl (aL rfl (aL rfl (aL rfl (aL rfl (bG _))))), by decide, hs, hb17, he, ?_⟩
 rw [hkd]
 rcases hr with ⟨r, hk, hr⟩ | ⟨hk, hr⟩
 have hbd := (hr h.length).1
 have hkr := body_kind hbd
 refine .inl ⟨r, hk, hbd, ?_, ?_, by omega, by omega⟩
 rw [hkr]; rfl
 rw [hkr]; exact (hr h.length).2
 exact .inr ⟨hk, hr h.length⟩
 refine dP (lp (bI rfl rfl) rfl (dN rfl rfl (aH (bH rfl (fun hc6 => ?_) (fun hc6 => ?_)))))
 refine dP (aJ (aX hs z_188 rfl (fun b18 w hb18 he18 hs => aH (dP (dM rfl rfl (dM rfl rfl (lp (aR fo_112_4 rfl) rfl (lp (aO rfl (cT eS (hs.g 1 rfl) hnl (i := 3) rfl rfl)) rfl (aZ ok_166 rfl rfl (c_unpackTXT hG hs.isIn hb h.length rfl hlen n rfl (by omega) (by omega)) rfl (fun v99 w HF => ?_))))))))))
 obtain ⟨Vc, cs, e, k, rfl, hc, he, hcl, hcf, hr⟩ := HF
 replace hs := hs.frame hc
 refine dM rfl rfl (dO rfl rfl rfl (dO rfl rfl rfl (aJ (dR 0 hs k_188 rfl rfl rfl hcl (by simp) hcf rfl (fun w hs => dN rfl rfl (aH (dP (lp (cG Tryz.underlying260 (fun _ h => by cases h) rfl) rfl (dN rfl rfl (aH (aB (dN rfl rfl (aH ?_)))))))))))))
 have hty2 : h.type = 16 := by omega
 have hkd : eE h.type = 7 := by rw [hty2]; rfl
 refine ⟨_, b18, _, _, cs, k, e, _, aL rfl (aL rfl (aL rfl (aL rfl (aL rfl (bG _))))), by decide, hs, hb18, he, ?_⟩
 rw [hkd]
 rcases hr with ⟨r, hk, hbd, hr⟩ | ⟨hk, hr⟩
 have hkr := body_kind hbd
 refine .inl ⟨r, hk, hbd, ?_, ?_, by omega, by omega⟩
 rw [hkr]; rfl
 rw [hkr]; exact hr
 exact .inr ⟨hk, hr⟩
 refine dP (lp (bI rfl rfl) rfl (dN rfl rfl (aH (bH rfl (fun hc7 => ?_) (fun hc7 => ?_)))))
 refine dP (aJ (aX hs z_194 rfl (fun b19 w hb19 he19 hs => aH (dP (dM rfl rfl (dM rfl rfl (aZ ok_167 rfl rfl (c_unpackAAAA hG hs.isIn hb n rfl (by omega) (by omega)) rfl (fun v108 w HF => ?_))))))))
 obtain ⟨cs, e, k, rfl, hc, he, hcl, hcf, hr⟩ := HF
 replace hs := hs.frame hc
 refine dM rfl rfl (dO rfl rfl rfl (dO rfl rfl rfl (aJ (dR 0 hs k_194 rfl rfl rfl hcl (by simp) hcf rfl (fun w hs => dN rfl rfl (aH (dP (lp (cG Tryz.underlying262 (fun _ h => by cases h) rfl) rfl (dN rfl rfl (aH (aB (dN rfl rfl (aH ?_)))))))))))))
 have hty2 : h.type = 28 := by omega
 have hkd : eE h.type = 8 := by rw [hty2]; rfl
 refine ⟨_, b19, _, _, cs, k, e, _, aL rfl (aL rfl (aL rfl (aL rfl (aL rfl (bG _))))), by decide, hs, hb19, he, ?_⟩
 rw [hkd]
 rcases hr with ⟨r, hk, hr⟩ | ⟨hk, hr⟩
 have hbd := (hr h.length).1
 have hkr := body_kind hbd
 refine .inl ⟨r, hk, hbd, ?_, ?_, by omega, by omega⟩
 rw [hkr]; rfl
 rw [hkr]; exact (hr h.length).2
 exact .inr ⟨hk, hr h.length⟩
 refine dP (lp (bI rfl rfl) rfl (dN rfl rfl (aH (bH rfl (fun hc8 => ?_) (fun hc8 => ?_)))))
 refine dP (aJ (aX hs z_199 rfl (fun b20 w hb20 he20 hs => aH (dP (dM rfl rfl (dM rfl rfl (aZ ok_168 rfl rfl (c_unpackSRV hG hs.isIn hb n rfl (by omega) (by omega)) rfl (fun v117 w HF => ?_))))))))
 obtain ⟨cs, e, k, rfl, hc, he, hcl, hcf, hr⟩ := HF
 replace hs := hs.frame hc
 refine dM rfl rfl (dO rfl rfl rfl (dO rfl rfl rfl (aJ (dR 0 hs k_199 rfl rfl rfl hcl (by simp) hcf rfl (fun w hs => dN rfl rfl (aH (dP (lp (cG Tryz.underlying264 (fun _ h => by cases h) rfl) rfl (dN rfl rfl (aH (aB (dN rfl rfl (aH ?_)))))))))))))
 have hty2 : h.type = 33 := by omega
 have hkd : eE h.type = 9 := by rw [hty2]; rfl
 refine ⟨_, b20, _, _, cs, k, e, _, aL rfl (aL rfl (aL rfl (aL rfl (aL rfl (bG _))))), by decide, hs, hb20, he, ?_⟩
 rw [hkd]
 rcases hr with ⟨r, hk, hr⟩ | ⟨hk, hr⟩
 have hbd := (hr h.length).1
 have hkr := body_kind hbd
 refine .inl ⟨r, hk, hbd, ?_, ?_, by omega, by omega⟩
 rw [hkr]; rfl
 rw [hkr]; exact (hr h.length).2
 exact .inr ⟨hk, hr h.length⟩
 refine dP (lp (bI rfl rfl) rfl (dN rfl rfl (aH (bH rfl (fun hc9 => ?_) (fun hc9 => ?_)))))
 refine dP (aJ (aX hs z_211 rfl (fun b21 w hb21 he21 hs => aH (dP (dM rfl rfl (dM rfl rfl (lp (aR fo_112_4 rfl) rfl (lp (aO rfl (cT eS (hs.g 1 rfl) hnl (i := 3) rfl rfl)) rfl (aZ ok_196 rfl rfl (c_unpackSVCB hG hs.isIn hb h.length rfl hlen n rfl (by omega) (by omega)) rfl (fun v128 w HF => ?_))))))))))
 obtain ⟨Vc, cs, e, k, rfl, hc, he, hcl, hcf, hr⟩ := HF
 replace hs := hs.frame hc
 refine dM rfl rfl (dO rfl rfl rfl (dO rfl rfl rfl (aJ (dR 0 hs k_211 rfl rfl rfl hcl (by simp) hcf rfl (fun w hs => dN rfl rfl (aH (dP (lp (cG Tryz.underlying268 (fun _ h => by cases h) rfl) rfl (dN rfl rfl (aH (aB (dN rfl rfl (aH ?_)))))))))))))
 have hty2 : h.type = 64 := by omega
 have hkd : eE h.type = 11 := by rw [hty2]; rfl
 refine ⟨_, b21, _, _, cs, k, e, _, aL rfl (aL rfl (aL rfl (aL rfl (aL rfl (bG _))))), by decide, hs, hb21, he, ?_⟩
 rw [hkd]
 rcases hr with ⟨r, hk, hbd, hr⟩ | ⟨hk, hr⟩
 have hkr := body_kind hbd
 refine .inl ⟨r, hk, hbd, ?_, ?_, by omega, by omega⟩
 rw [hkr]; rfl
 rw [hkr]; exact hr
 exact .inr ⟨hk, hr⟩
 refine dP (lp (bI rfl rfl) rfl (dN rfl rfl (aH (bH rfl (fun hc10 => ?_) (fun hc10 => ?_)))))
 refine dP (aJ (aX hs z_216 rfl (fun b22 w hb22 he22 hs => aH (dP (dM rfl rfl (dM rfl rfl (lp (aR fo_112_4 rfl) rfl (lp (aO rfl (cT eS (hs.g 1 rfl) hnl (i := 3) rfl rfl)) rfl (aZ ok_196 rfl rfl (c_unpackSVCB hG hs.isIn hb h.length rfl hlen n rfl (by omega) (by omega)) rfl (fun v139 w HF => ?_))))))))))
 obtain ⟨Vc, cs, e, k, rfl, hc, he, hcl, hcf, hr⟩ := HF
 replace hs := hs.frame hc
 refine dM rfl rfl (dO rfl rfl rfl (dO rfl rfl rfl (lp (aR fo_216_0 rfl) rfl (aJ (dR 0 hs k_211 rfl rfl rfl hcl (by simp) hcf rfl (fun w hs => dN rfl rfl (aH (dP (lp (cG Tryz.underlying270 (fun _ h => by cases h) rfl) rfl (dN rfl rfl (aH (aB (dN rfl rfl (aH ?_))))))))))))))
 have hty2 : h.type = 65 := by omega
 have hkd : eE h.type = 12 := by rw [hty2]; rfl
 refine ⟨_, b22, _, _, cs, k, e, _, aL rfl (aL rfl (aL rfl (aL rfl (aL rfl (bG _))))), by decide, hs, hb22, he, ?_⟩
 rw [hkd]
 rcases hr with ⟨r, hk, hbd, hr⟩ | ⟨hk, hr⟩
 refine .inl ⟨{ r with kind := 12 }, hk, by rw [body12, hbd]; rfl, rfl, ?_, (by decide : 1 ≤ 12), (by decide : 12 ≤ 13)⟩
 exact hr
 exact .inr ⟨hk, by rw [body12, hr]; rfl⟩
 refine dP (lp (bI rfl rfl) rfl (dN rfl rfl (aH (bH rfl (fun hc11 => ?_) (fun hc11 => ?_)))))
 refine dP (aJ (aX hs z_205 rfl (fun b23 w hb23 he23 hs => aH (dP (dM rfl rfl (dM rfl rfl (lp (aR fo_112_4 rfl) rfl (lp (aO rfl (cT eS (hs.g 1 rfl) hnl (i := 3) rfl rfl)) rfl (aZ ok_169 rfl rfl (c_unpackOPT hG hs.isIn hb h.length rfl hlen n rfl (by omega) (by omega)) rfl (fun v151 w HF => ?_))))))))))
 obtain ⟨Vc, cs, e, k, rfl, hc, he, hcl, hcf, hr⟩ := HF
 replace hs := hs.frame hc
 refine dM rfl rfl (dO rfl rfl rfl (dO rfl rfl rfl (aJ (dR 0 hs k_205 rfl rfl rfl hcl (by simp) hcf rfl (fun w hs => dN rfl rfl (aH (dP (lp (cG Tryz.underlying266 (fun _ h => by cases h) rfl) rfl (dN rfl rfl (aH (aB (dN rfl rfl (aH ?_)))))))))))))
 have hty2 : h.type = 41 := by omega
 have hkd : eE h.type = 10 := by rw [hty2]; rfl
 refine ⟨_, b23, _, _, cs, k, e, _, aL rfl (aL rfl (aL rfl (aL rfl (aL rfl (bG _))))), by decide, hs, hb23, he, ?_⟩
 rw [hkd]
 rcases hr with ⟨r, hk, hbd, hr⟩ | ⟨hk, hr⟩
 have hkr := body_kind hbd
 refine .inl ⟨r, hk, hbd, ?_, ?_, by omega, by omega⟩
 rw [hkr]; rfl
 rw [hkr]; exact hr
 exact .inr ⟨hk, hr⟩
 refine dP (aJ (aX hs z_221 rfl (fun b24 w hb24 he24 hs => aH (dP (lp (aR fo_112_1 rfl) rfl (lp (aO rfl (cT k_87 (hs.g 1 rfl) hnl (i := 0) rfl rfl)) rfl (dM rfl rfl (dM rfl rfl (lp (aR fo_112_4 rfl) rfl (lp (aO rfl (cT eS (hs.g 1 rfl) hnl (i := 3) rfl rfl)) rfl (aZ ok_172 rfl rfl (c_unpackUnknown hG hs.isIn hb h.type h.length rfl hlen n rfl (by omega) (by omega)) rfl (fun v34 w HF => ?_))))))))))))
 obtain ⟨Vc, cs, e, k, rfl, hc, he, hcl, hcf, hr⟩ := HF
 replace hs := hs.frame hc
 refine dM rfl rfl (dO rfl rfl rfl (dO rfl rfl rfl (aJ (dR 0 hs k_221 rfl rfl rfl hcl (by simp) hcf rfl (fun w hs => dN rfl rfl (aH (dP (lp (cG Tryz.underlying272 (fun _ h => by cases h) rfl) rfl (dN rfl rfl (aH (aB (dN rfl rfl (aH ?_)))))))))))))
 have hkd : eE h.type = 13 := by
  unfold eE
  rw [if_neg (by omega), if_neg (by omega), if_neg (by omega), if_neg (by omega), if_neg (by omega), if_neg (by omega), if_neg (by omega), if_neg (by omega), if_neg (by omega), if_neg (by omega), if_neg (by omega), if_neg (by omega)]
 refine ⟨_, b24, _, _, cs, k, e, _, aL rfl (aL rfl (aL rfl (aL rfl (aL rfl (bG _))))), by decide, hs, hb24, he, ?_⟩
 rw [hkd]
 rcases hr with ⟨r, hk, hbd, hr⟩ | ⟨hk, hr⟩
 have hkr := body_kind hbd
 refine .inl ⟨r, hk, hbd, ?_, ?_, by omega, by omega⟩
 rw [hkr]; rfl
 rw [hkr]; exact hr
 exact .inr ⟨hk, hr⟩
 clear hs
 rintro ρ w ⟨Vc, bb, T, E, cs, k, e, sn, hsub, hsn, hs, hbb, he, hr⟩
 refine EW.weaken hsub (aF (dP (dM rfl rfl (lp (bB he rfl) rfl (aH (bH rfl (fun hc12 => ?_) (fun hc12 => ?_)))))))
 refine dP (dM rfl rfl (dM rfl rfl (lp (po_add_str rfl rfl (Nat.le_trans (Nat.add_le_add_right hsn _) (by decide))) rfl (dM rfl rfl (lp (bL rfl (by (simp only [List.all_cons, List.all_nil, he.oneCell]; rfl)) (eI _ _)) rfl (aJ (cR hs rfl rfl rfl (fun b162 w hb162 hbe162 hs => ?_))))))))
 replace hs := hs.drop hb162
 refine lp (cG Tryz.underlying139 (fun _ h => by cases h) rfl) rfl (dN rfl rfl (dN rfl rfl (dN rfl rfl (aH (aV ⟨_, res3 rfl rfl rfl, ?_⟩)))))
 have hno : k = .other ∧ body l n (eE h.type) h.length = none := by
  rcases hr with ⟨r, hk, _⟩ | hr
  exact absurd hk hc12
  exact hr
 exact ⟨Vc, _, _, _, .other, rfl, (hs.drop hbb).drop hb5, dA, .inr ⟨rfl, hno.2, rfl, rfl⟩⟩
 have hk : k = .ok := by simpa using hc12
 subst hk
 obtain ⟨r, hbd, hT, hBC, hk1, hk2⟩ : ∃ r, body l n (eE h.type) h.length = some r ∧ T = bodyT r.kind ∧ fL Vc r.kind h.type r cs ∧ 1 ≤ r.kind ∧ r.kind ≤ 13 := by
  rcases hr with ⟨r, _, hr⟩ | ⟨hk, _⟩
  exact ⟨r, hr⟩
  cases hk
 subst hT
 refine aW (aF (bV hs [3] mixed (fun w hs => dI 0 rfl (fun w => aC rfl) rfl rfl (dI 1 rfl (fun w => aC rfl) rfl rfl (dI 2 rfl (fun w => aR fo_112_4 rfl) rfl rfl (dJ 3 rfl hs rfl (fun w hs => (aO rfl (cT eS (hs.g 1 rfl) hnl (i := 3) rfl rfl))) rfl (dI 4 rfl (fun w => (bY Tryz.underlying22 Tryz.underlying3 rfl (fV (c := h.length) rfl (by omega)))) rfl rfl (dI 5 rfl (fun w => (bN rfl rfl (fV (c := n + h.length) (by omega) (by omega)))) rfl rfl (dI 6 rfl (fun w => aD rfl) rfl rfl (dI 7 rfl (fun w => aD rfl) rfl rfl (dI 8 rfl (fun w => aD rfl) rfl rfl (bS (by decide +kernel) (aV ?_)))))))))))))
 refine ⟨_, res3 rfl rfl rfl, ?_⟩
 obtain ⟨V', hle, hbv, hs⟩ := hs.give hbb
 exact ⟨V', _, _, _, .ok, rfl, hs.drop hb5, rfl, .inl ⟨r, rfl, hbd, ⟨bb, cs, E, rfl, hbv, hBC.mono hle, hk1, hk2⟩, rfl⟩⟩
end
end Go.Proofs.YtgpfjlfkaoffeaaGreatDoor
namespace Go.Proofs.YtgpfjlfkaoffeaaGreatDoor
open Go
def RRes (V : Vw) (x : fY) (c : List Value) : Prop := ∃ h r bv, x = whole r h ∧ c = hdrC h ++ [bv] ∧ RBody V h.type bv r ∧ h.name.length ≤ 254 ∧ GoodR r
theorem RRes.mono {V V' : Vw} (hV : V.le V') {x : fY} {c : List Value} (h : RRes V x c) : RRes V' x c := by
 obtain ⟨a, r, bv, h1, h2, h3, h4⟩ := h
 exact ⟨a, r, bv, h1, h2, h3.mono hV, h4⟩
theorem RRes.flat {V : Vw} {x : fY} {c : List Value} (h : RRes V x c) : c.length = 261 ∧ Flat c := by
 obtain ⟨a, r, bv, h1, rfl, ⟨b, cs, E, rfl, _⟩, h4, _⟩ := h
 exact ⟨by rw [List.length_append, hdrC_len h4]; rfl, fD (flat_hdrC _) (bX rfl eQ)⟩
theorem beginM_ok {l : List UInt8} {m m' : PM} {s : Nat} {ro : Option fY} (h : beginM l m s = (.ok, ro, m')) :
  ∃ r o m2, fH l (m1Of m) s = (.ok, m2) ∧ header l m2.at_ = some (r, o) ∧ ro = some r ∧ m' = { m2 with valid := true, headAt := m2.at_, htype := r.type, hlen := r.length, at_ := o } := by
 obtain ⟨k, m2, hadv⟩ : ∃ k m2, fH l (m1Of m) s = (k, m2) := ⟨_, _, rfl⟩
 by_cases hk : k = .ok
 subst hk
 cases hh : header l m2.at_ with
 | none => rw [beginM_none hadv hh] at h; cases h
 | some p =>
  obtain ⟨r, o⟩ := p
  rw [beginM_some hadv hh] at h
  cases h
  exact ⟨r, o, m2, hadv, hh, rfl, rfl⟩
 rw [beginM_bad hadv hk] at h
 cases h
 exact absurd rfl hk
theorem recordM_bad {l : List UInt8} {m m' : PM} {s : Nat} {k : EK} {ro : Option fY} (h : beginM l m s = (k, ro, m')) (hk : k ≠ .ok) : recordM l m s = (k, none, m') := by
 unfold recordM
 rw [h]
 cases k <;> first | rfl | exact absurd rfl hk
theorem recordM_some {l : List UInt8} {m m' : PM} {s : Nat} {h r : fY} (hb : beginM l m s = (.ok, some h, m')) (hbd : body l m'.at_ (eE h.type) h.length = some r) :
  recordM l m s = (.ok, some (whole r h), { m' with valid := false, at_ := m'.at_ + h.length, index := m'.index + 1 }) := by
 unfold recordM
 rw [hb]
 simp only [hbd]
theorem recordM_none {l : List UInt8} {m m' : PM} {s : Nat} {h : fY} (hb : beginM l m s = (.ok, some h, m')) (hbd : body l m'.at_ (eE h.type) h.length = none) :
  recordM l m s = (.other, none, { m' with valid := false }) := by
 unfold recordM
 rw [hb]
 simp only [hbd]
theorem kind_pos (t : Nat) : 1 ≤ eE t ∧ eE t ≤ 13 := by
 unfold eE
 repeat' split
 all_goals omega
section
variable {A : Nat → Addr} {V : Vw} {w0 : World} {l : List UInt8} {mv : Value} {bp : Nat} {E : TypeId}
set_option maxHeartbeats 1000000 in
theorem c_resource (hG : Gl A V) (hV : V.In w0) (hb : RB V mv l) {m : PM} {cs : List Value} (hown : w0.heap[bp]? = some (.cells cs.toArray E (0, 0))) (hvn : V bp = none) (hp : PR l mv m cs) (hwf : WF l m) (h2l : l.length ≤ 4294967296)
  (s : Nat) {sv : Int} (hsv : sv = (s + 1 : Nat)) (h1 : 1 ≤ s) (h2 : s ≤ 4) :
  eC Tryz.prog 158 #[.pointer (some ⟨bp, 0, none⟩), .int .u8 sv] w0 fun v w' => ∃ (V' : Vw) (cs' rcs : List Value) (e : Value) (k : EK) (ro : Option fY) (m' : PM), v = .tuple #[.agg rcs.toArray, e] ∧
   St ⟨w0, V, V'⟩ w' [(bp, .cells cs'.toArray E (0, 0))] ∧ recordM l m s = (k, ro, m') ∧ PR l mv m' cs' ∧ ErrV A e k ∧ rcs.length = 261 ∧ Flat rcs ∧ (k = .ok → ∃ x, ro = some x ∧ RRes V' x rcs) := by
 subst hsv
 have hs := St.start1 hV hown (bU _ _) hvn
 have hz : rep 256 (Value.int .u8 0) ++ [.int .u16 0, .int .u16 0, .int .u32 0, .int .u16 0, .nilIface] = hdrC {} ++ [.nilIface] := by rw [rep256]; exact (List.append_assoc (nmC [] 0) [.int .u16 0, .int .u16 0, .int .u32 0, .int .u16 0] [.nilIface]).symm
 have hzl : (hdrC {} ++ [Value.nilIface]).length = 261 := by rw [List.length_append, hdrC_len (by simp)]; rfl
 have hzf : Flat (hdrC {} ++ [Value.nilIface]) := fD (flat_hdrC _) (bX rfl eQ)
 refine aT [_, _] Tryz.func158 Tryz.ntmps158 Tryz.results158 rfl rfl (dP (aJ (aX hs z_116 rfl (fun b4 w hb4 he4 hs => ?_))))
 rw [hz] at hs
 refine dN rfl rfl (aH (dP (aJ (aX hs z_116 rfl (fun b6 w hb6 he6 hs => ?_)))))
 rw [hz] at hs
 refine aH (dP (dN rfl rfl (aH (dP (dM rfl rfl (dM rfl rfl (aZ ok_157 rfl rfl (c_resourceHeader hG hs.isIn hb (hs.g 2 rfl) (hs.off (k := 2) rfl) hp hwf h2l s rfl h1 h2) rfl (fun v11 w HF => ?_))))))))
 obtain ⟨cs', hcs, e, k, ro, m', rfl, hc, hbeg, hp, he, hr⟩ := HF
 replace hs := hs.frame1 (k := 2) rfl rfl hc
 have hcl : hcs.length = 260 ∧ Flat hcs := by
  rcases hr with ⟨r, _, _, rfl, hn⟩ | ⟨_, rfl⟩
  exact ⟨hdrC_len hn, flat_hdrC _⟩
  exact ⟨hdrC_len (by simp), flat_hdrC _⟩
 refine dM rfl rfl (dO rfl rfl rfl (dO rfl rfl rfl (lp (aR fo_116_0 rfl) rfl (aJ (o_storeHd (k := 0) hs k_112 rfl rfl rfl (hdrC_len (by simp)) hcl.1 hcl.2 rfl (fun w hs => ?_))))))
 have hrl : (hcs ++ [Value.nilIface]).length = 261 := by rw [List.length_append, hcl.1]; rfl
 have hrf : Flat (hcs ++ [Value.nilIface]) := fD hcl.2 (bX rfl eQ)
 refine dN rfl rfl (aH (aF (dP (dM rfl rfl (lp (bB he rfl) rfl (aH (bH rfl (fun hc0 => ?_) (fun hc0 => ?_))))))))
 refine dP (lp (aO rfl (aP k_116 (hs.g 0 rfl) hrl)) rfl (dM rfl rfl (aJ (dR 1 hs k_116 rfl rfl rfl hrl hzl hrf rfl (fun w hs => dN rfl rfl (aH (aV ⟨_, fX ⟨_, rfl, aP k_116 (hs.g 1 rfl) hrl⟩ rfl, ?_⟩)))))))
 exact ⟨V, _, _, _, k, none, m', rfl, (hs.drop hb6).drop hb4, recordM_bad hbeg hc0, hp, he, hrl, hrf, fun h => absurd h hc0⟩
 · have hk : k = .ok := by simpa using hc0
   subst hk
   obtain ⟨h, hro, rfl, hnm⟩ : ∃ r, ro = some r ∧ hcs = hdrC r ∧ r.name.length ≤ 254 := by
    rcases hr with ⟨r, _, h⟩ | ⟨h, _⟩
    exact ⟨r, h⟩
    exact absurd rfl h
   subst hro
   obtain ⟨r', o, m2, hadv, hhd, hre, hm'⟩ := beginM_ok hbeg
   cases hre
   obtain ⟨hss, hm2, hidx⟩ := advance_ok hadv
   rw [m1Of_sec] at hss
   have hhs := header_some hhd
   have hsec : m'.sec = s := by rw [hm', hm2]; simp only; rw [m1Of_sec]; exact hss
   have hat : m'.at_ ≤ l.length := by rw [hm']; exact hhs.2.1
   have hix : m'.index ≤ 65535 := by
    have e1 : m'.index = m.index := by rw [hm', hm2]; simp only [m1Of]; split <;> rfl
    have := hwf.idx (by omega) (by omega)
    have := cW l m.sec
    omega
   obtain rfl := hp.get (by omega)
   refine aW (dP (dM rfl rfl (lp (aN rfl) rfl (lp (aR fo_100_5 rfl) rfl (aJ (dQ 2 hs k_4 rfl rfl rfl rfl rfl rfl rfl (fun w hs => aH (aF (bV hs [4, 8, 10] mixed (fun w hs => dI 0 rfl (fun w => aC rfl) rfl rfl (dI 1 rfl (fun w => aC rfl) rfl rfl (dI 2 rfl (fun w => aN rfl) rfl rfl (dI 3 rfl (fun w => aR fo_100_0 rfl) rfl rfl (dJ 4 rfl hs rfl (fun w hs => (aO rfl (aQ k_23 (hs.g 2 rfl) rfl))) rfl ?_))))))))))))))
   refine dI 5 rfl (fun w => aC rfl) rfl rfl (dI 6 rfl (fun w => aN rfl) rfl rfl (dI 7 rfl (fun w => aR fo_100_3 rfl) rfl rfl (dJ 8 rfl hs rfl (fun w hs => (aO rfl (aQ cH (hs.g 2 rfl) rfl))) rfl (dI 9 rfl (fun w => aR fo_116_0 rfl) rfl rfl (dJ 10 rfl hs rfl (fun w hs => (aO rfl (ld_hd k_112 (hs.g 0 rfl) (hdrC_len hnm)))) rfl (dL 11 rfl (cF (cD rfl rfl ok_191 (c_unpackBody hG hs.isIn hb h hnm hhs.2.2.1 hhs.2.2.2 m'.at_ rfl (by omega) (by omega))) rfl (fun v34 w HF => ?_))))))))
   obtain ⟨V', bv, e, o2, k, rfl, hc, he, hr⟩ := HF
   replace hs := hs.frame hc
   have hbv1 : bv.oneCell' = true := by
    rcases hr with ⟨r, _, _, ⟨b, cs, E, rfl, _⟩, _⟩ | ⟨_, _, rfl, _⟩ <;> rfl
   refine ⟨fun h => absurd h (by decide +kernel), dI 12 rfl (fun w => aC rfl) rfl rfl (dI 13 rfl (fun w => aI rfl rfl) rfl rfl (dI 14 rfl (fun w => aI rfl rfl) rfl rfl (dI 15 rfl (fun w => aI rfl rfl) rfl rfl (dI 16 rfl (fun w => aR fo_116_1 rfl) rfl rfl (dL 17 rfl (o_storeP (k := 0) hs k_114 rfl rfl rfl hbv1 rfl (by rw [List.length_append, hdrC_len hnm]; decide) (set_behind (i := 0) (hdrC_len hnm) _) rfl (fun w hs => ?_)))))))⟩
   have hrl : (hdrC h ++ [bv]).length = 261 := by rw [List.length_append, hdrC_len hnm]; rfl
   have hrf : Flat (hdrC h ++ [bv]) := fD (flat_hdrC _) (bX hbv1 eQ)
   refine ⟨fun h => absurd h (by decide +kernel), dI 18 rfl (fun w => aN rfl) rfl rfl (dI 19 rfl (fun w => aR fo_100_3 rfl) rfl rfl (dL 20 rfl (dQ 2 hs cH rfl rfl rfl rfl rfl rfl rfl (fun w hs => ⟨fun h => absurd h (by decide +kernel), dI 21 rfl (fun w => aD rfl) rfl rfl (bS (by decide +kernel) (aF (dP (dM rfl rfl (lp (bB he rfl) rfl (aH (bH rfl (fun hc1 => ?_) (fun hc1 => ?_))))))))⟩))))⟩
   · refine aF ?_
     obtain ⟨mm, es, ec, hse1, hse2, hse3⟩ := (hG.mono hs.view).sec
     obtain ⟨sn, hsn, hlk⟩ := secName hse2 hse3 (s + 1 : Nat)
     refine bV hs [1, 3] mixed (fun w hs => dI 0 rfl (fun w => (bM (vs := []) (ps := []) rfl bz_116)) rfl rfl ?_)
     rw [hz]
     refine dJ 1 rfl hs rfl (fun w hs => (aO rfl (bR k_336 (Vw.cell_in hs.isIn hse1)))) rfl (dI 2 rfl (fun w => aC rfl) rfl rfl (dJ 3 rfl hs rfl (fun w hs => (hlk _ _ _ _ hs.isIn rfl rfl)) rfl (dI 4 rfl (fun w => (po_add_str rfl rfl (Nat.le_trans (Nat.add_le_add_left hsn _) (by decide)))) rfl rfl (dI 5 rfl (fun w => aC rfl) rfl rfl (dI 6 rfl (fun w => (bL rfl (by (simp only [List.all_cons, List.all_nil, he.oneCell]; rfl)) (eI _ _))) rfl rfl (a_two 7 9 (by decide +kernel) rfl rfl ?_ ?_))))))
     refine cR hs rfl rfl rfl (fun b50 w hb50 hbe50 hs => ?_)
     replace hs := hs.drop hb50
     refine ⟨fun _ => hs, dI 8 rfl (fun w => (cG Tryz.underlying139 (fun _ h => by cases h) rfl)) rfl rfl (dL 9 rfl (dR 1 hs k_116 rfl rfl rfl hzl hzl hzf rfl (fun w hs => ⟨fun _ => hs, ?_⟩)))⟩
     rotate_left
     refine dR 1 hs k_116 rfl rfl rfl hzl hzl hzf rfl (fun w hs => ⟨fun _ => hs, dL 7 rfl (cR hs rfl rfl rfl (fun b50 w hb50 hbe50 hs => ?_))⟩)
     replace hs := hs.drop hb50
     refine ⟨fun _ => hs, dI 8 rfl (fun w => (cG Tryz.underlying139 (fun _ h => by cases h) rfl)) rfl rfl ?_⟩
     all_goals
      refine dI 10 rfl (fun w => aD rfl) rfl rfl (bS (by decide +kernel) (aV ⟨_, fX ⟨_, rfl, aP k_116 (hs.g 1 rfl) hzl⟩ rfl, ?_⟩))
      have hno : body l m'.at_ (eE h.type) h.length = none ∧ o2 = m'.at_ := by
       rcases hr with ⟨r, hk, _⟩ | ⟨_, h1, _, h2⟩
       exact absurd hk hc1
       exact ⟨h1, h2⟩
      obtain ⟨hno, rfl⟩ := hno
      exact ⟨V', _, _, _, .other, none, _, rfl, (hs.drop hb6).drop hb4, recordM_none hbeg hno, PR.mk rfl, dA, hzl, hzf, fun h => by cases h⟩
   have hk : k = .ok := by simpa using hc1
   subst hk
   obtain ⟨r, hbd, hRB, rfl⟩ : ∃ r, body l m'.at_ (eE h.type) h.length = some r ∧ RBody V' h.type bv r ∧ o2 = m'.at_ + h.length := by
    rcases hr with ⟨r, _, h⟩ | ⟨h, _⟩
    exact ⟨r, h⟩
    cases h
   refine aW (dP (dM rfl rfl (lp (aN rfl) rfl (lp (aR fo_100_4 rfl) rfl (lp (aO rfl (aQ cH (hs.g 2 rfl) rfl)) rfl (lp (bN rfl rfl (fV (c := m'.index + 1) (by omega) (by omega))) rfl (lp (aN rfl) rfl (lp (aR fo_100_4 rfl) rfl (aJ (dQ 2 hs cH rfl rfl rfl rfl rfl rfl rfl (fun w hs => aH (dP (lp (aO rfl (aP k_116 (hs.g 0 rfl) hrl)) rfl (aJ (dR 1 hs k_116 rfl rfl rfl hrl hzl hrf rfl (fun w hs => ?_))))))))))))))))
   refine dN rfl rfl (aH (aV ⟨_, fX ⟨_, rfl, aP k_116 (hs.g 1 rfl) hrl⟩ rfl, ?_⟩))
   exact ⟨V', _, _, _, .ok, _, _, rfl, (hs.drop hb6).drop hb4, recordM_some hbeg hbd, PR.mk rfl, rfl, hrl, hrf, fun _ => ⟨_, rfl, h, r, bv, rfl, rfl, hRB, hnm, body_good hbd (by have := hhs.2.2.2; omega) (kind_pos _).1 (kind_pos _).2 (body_kind hbd)⟩⟩
end
end Go.Proofs.YtgpfjlfkaoffeaaGreatDoor
namespace Go.Proofs.YtgpfjlfkaoffeaaGreatDoor
open Go
section
variable {l : List UInt8} {m m' : PM} {s : Nat} {k : EK}
theorem wf_init (l : List UInt8) : WF l {} := ⟨fun _ => rfl, by decide, fun h => (by cases h), fun h => absurd h (by decide), fun h => (by cases h), fun h => absurd h (by decide), Nat.zero_le _, by decide, by decide⟩
theorem wf_start (h : 12 ≤ l.length) : WF l { sec := 1, at_ := 12 } :=
  ⟨fun h => (by cases h), by decide, fun h => (by cases h), fun _ _ => Nat.zero_le _, fun h => (by cases h), fun _ => h, by show 12 ≤ _; omega, by decide, by decide⟩
theorem wf_advance (hwf : WF l m) (h1 : 1 ≤ s) (h2 : s ≤ 4) (h : fH l m s = (k, m')) : WF l m' := by
  unfold fH at h
  split at h
  · cases h; exact hwf
  · split at h
    · cases h; exact hwf
    · have hs : m.sec = s := by omega
      have hlong := hwf.long (by omega)
      have hidx := hwf.idx (by omega) (by omega)
      split at h
      · cases h
        exact ⟨fun h => absurd h (Nat.succ_ne_zero _), by show m.sec + 1 ≤ 5; omega, fun _ => ⟨rfl, rfl⟩, fun _ _ => Nat.zero_le _, fun h => (by cases h), fun _ => hlong, hwf.at_le, hwf.hl, hwf.ht⟩
      · cases h
        exact ⟨fun h => absurd h (by show m.sec ≠ 0; omega), hwf.secs, fun h => absurd h (by show m.sec ≠ 5; omega), hwf.idx, fun h => (by cases h), fun _ => hlong, hwf.at_le, hwf.hl, hwf.ht⟩
theorem wf_m1 (hwf : WF l m) : WF l (m1Of m) := by
  unfold m1Of
  split
  · rename_i hv
    have h2 := hwf.idxV hv
    exact ⟨fun h => (by have h3 := hwf.before h; rw [h3] at hv; exact absurd hv (by decide)), hwf.secs, hwf.behind, hwf.idx, fun h => ⟨h2.1, h2.2.1, h2.2.1⟩, hwf.long, by show m.headAt ≤ _; omega, hwf.hl, hwf.ht⟩
  · exact hwf
theorem wf_next (hwf : WF l m) (h1 : 1 ≤ m.sec) (h2 : m.sec ≤ 4) (hi : m.index < count l m.sec) {a : Nat} (ha : a ≤ l.length + 65535) : WF l { m with valid := false, at_ := a, index := m.index + 1 } :=
  ⟨fun h => absurd h (by show m.sec ≠ 0; omega), hwf.secs, fun h => absurd h (by show m.sec ≠ 5; omega), fun _ _ => hi, fun h => (by cases h), hwf.long, ha, hwf.hl, hwf.ht⟩
theorem advance_lt (hwf : WF l m) (h1 : 1 ≤ s) (h2 : s ≤ 4) (h : fH l m s = (.ok, m')) : m'.sec = s ∧ m'.index < count l s ∧ m'.valid = false ∧ m'.index = m.index ∧ m'.at_ = m.at_ := by
  obtain ⟨hs, rfl, hne⟩ := advance_ok h
  have := hwf.idx (by omega) (by omega)
  rw [hs] at this
  exact ⟨hs, by show m.index < _; omega, rfl, rfl, rfl⟩
theorem wf_next' (hwf : WF l m) (h1 : 1 ≤ s) (h2 : s ≤ 4) (h : fH l m s = (.ok, m')) {a : Nat} (ha : a ≤ l.length + 65535) : WF l { m' with at_ := a, index := m'.index + 1 } := by
  obtain ⟨e1, e2, e3, _, _⟩ := advance_lt hwf h1 h2 h
  have hw := wf_advance hwf h1 h2 h
  have := wf_next hw (by omega) (by omega) (by rw [e1]; exact e2) ha
  rwa [← e3] at this
theorem ask_some {i e : Nat} {a : PAsk} (h : ask l i = some (a, e)) : e ≤ l.length := by
  simp only [ask, Option.bind_eq_some_iff, Option.map_eq_some_iff] at h
  obtain ⟨x, h1, t, h2, c, h3, h4⟩ := h
  cases h4
  have := rd16_some h3
  omega
theorem wf_askM (hwf : WF l m) : WF l (askM l m).2.2 := by
  unfold askM
  obtain ⟨k, m1, hadv⟩ : ∃ k m1, fH l m 1 = (k, m1) := ⟨_, _, rfl⟩
  rw [hadv]
  have hw := wf_advance hwf (by decide) (by decide) hadv
  cases k with
  | ok =>
    simp only
    cases hh : ask l m1.at_ with
    | none => exact hw
    | some p =>
      obtain ⟨a, e⟩ := p
      have := ask_some hh
      exact wf_next' hwf (by decide) (by decide) hadv (by omega)
  | _ => exact hw
theorem wf_beginM (hwf : WF l m) (h1 : 1 ≤ s) (h2 : s ≤ 4) : WF l (beginM l m s).2.2 := by
  obtain ⟨k, m1, hadv⟩ : ∃ k m1, fH l (m1Of m) s = (k, m1) := ⟨_, _, rfl⟩
  have hw := wf_advance (wf_m1 hwf) h1 h2 hadv
  by_cases hk : k = .ok
  · subst hk
    cases hh : header l m1.at_ with
    | none => rw [beginM_none hadv hh]; exact hw
    | some p =>
      obtain ⟨r, o⟩ := p
      rw [beginM_some hadv hh]
      have hhs := header_some hh
      obtain ⟨e1, e2, e3, e4, e5⟩ := advance_lt (wf_m1 hwf) h1 h2 hadv
      have hat : m1.at_ ≤ l.length := by
        simp only [header, Option.bind_eq_some_iff] at hh
        obtain ⟨x, hn, _⟩ := hh
        unfold name at hn
        rw [fS] at hn
        split at hn
        · omega
        · cases hn
      exact ⟨fun h => absurd h (by show m1.sec ≠ 0; omega), hw.secs, fun h => absurd h (by show m1.sec ≠ 5; omega), hw.idx, fun _ => ⟨by rw [← e1] at e2; exact e2, hat, hhs.2.1⟩, hw.long, by show o ≤ _; omega, hhs.2.2.2, hhs.2.2.1⟩
  · rw [beginM_bad hadv hk]; exact hw
theorem wf_clear (hwf : WF l m) : WF l { m with valid := false } :=
  ⟨fun h => (by have := hwf.before h; rw [this]), hwf.secs, fun h => ⟨(hwf.behind h).1, rfl⟩, hwf.idx, fun h => (by cases h), hwf.long, hwf.at_le, hwf.hl, hwf.ht⟩
theorem valid_sec (hwf : WF l m) (hv : m.valid = true) : 1 ≤ m.sec ∧ m.sec ≤ 4 := by
  have h5 := hwf.secs
  refine ⟨?_, ?_⟩
  · rcases Nat.eq_zero_or_pos m.sec with h | h
    · have := hwf.before h; rw [this] at hv; cases hv
    · exact h
  · rcases Nat.lt_or_ge 4 m.sec with h | h
    · have := (hwf.behind (by omega)).2; rw [hv] at this; cases this
    · exact h
theorem wf_taken (hwf : WF l m) (hv : m.valid = true) : WF l { m with at_ := m.at_ + m.hlen, valid := false, index := m.index + 1 } := by
  obtain ⟨h1, h2⟩ := valid_sec hwf hv
  have h3 := hwf.idxV hv
  have h4 := hwf.hl
  have := wf_next hwf h1 h2 h3.1 (a := m.at_ + m.hlen) (by omega)
  exact this
theorem wf_recordM (hwf : WF l m) (h1 : 1 ≤ s) (h2 : s ≤ 4) : WF l (recordM l m s).2.2 := by
  have hw := wf_beginM hwf h1 h2
  obtain ⟨k, ro, m1, hb⟩ : ∃ k ro m1, beginM l m s = (k, ro, m1) := ⟨_, _, _, rfl⟩
  rw [hb] at hw
  simp only at hw
  by_cases hk : k = .ok
  · subst hk
    obtain ⟨r, o, m2, hadv, hhd, rfl, hm'⟩ := beginM_ok hb
    cases hbd : body l m1.at_ (eE r.type) r.length with
    | none => rw [recordM_none hb hbd]; exact wf_clear hw
    | some x =>
      rw [recordM_some hb hbd]
      have hv : m1.valid = true := by rw [hm']
      have hl : m1.hlen = r.length := by rw [hm']
      have := wf_taken hw hv
      have e : m1.at_ + r.length = m1.at_ + m1.hlen := by rw [hl]
      simp only [e]
      exact this
  · rw [recordM_bad hb hk]; exact hw
end
end Go.Proofs.YtgpfjlfkaoffeaaGreatDoor
namespace Go.Proofs.YtgpfjlfkaoffeaaGreatDoor
open Go
def unpackN (b : List UInt8) : Option PMsg :=
  if b.length < 12 then none else
  match fQ b fuel { sec := 1, at_ := 12 } [] with
  | (.ok, al, m1) => match eR b 2 fuel m1 [] with
    | (.ok, r1, m2) => match eR b 3 fuel m2 [] with
      | (.ok, r2, m3) => match eR b 4 fuel m3 [] with
        | (.ok, r3, _) => some { id := w16 b 0, bits := w16 b 2, asks := al, answers := r1, authorities := r2, additionals := r3 }
        | _ => none
      | _ => none
    | _ => none
  | _ => none
theorem num_zero {k : EK} : k.num = 0 ↔ k = .ok := by cases k <;> simp [EK.num]
theorem stepM_1 (b : List UInt8) (m k : PM) : stepM b m k 1 = ((startM b).1, (startM b).2, k) := by simp [stepM]
theorem stepM_3 (b : List UInt8) (m k : PM) : stepM b m k 3 = ((questionM b m 3).1, (questionM b m 3).2, k) := by simp [stepM]
theorem stepM_8 (b : List UInt8) (m k : PM) : stepM b m k 8 = ((partM b m 2 2).1, (partM b m 2 2).2, k) := by simp [stepM]
theorem stepM_13 (b : List UInt8) (m k : PM) : stepM b m k 13 = ((partM b m 3 2).1, (partM b m 3 2).2, k) := by simp [stepM]
theorem stepM_18 (b : List UInt8) (m k : PM) : stepM b m k 18 = ((partM b m 4 2).1, (partM b m 4 2).2, k) := by simp [stepM]
theorem parse5 (b : List UInt8) : parseM b [1, 3, 8, 13, 18] =
    [(startM b).1, (questionM b (startM b).2 3).1, (partM b (questionM b (startM b).2 3).2 2 2).1, (partM b (partM b (questionM b (startM b).2 3).2 2 2).2 3 2).1, (partM b (partM b (partM b (questionM b (startM b).2 3).2 2 2).2 3 2).2 4 2).1] := by
  unfold parseM
  simp only [runM, stepM_1, stepM_3, stepM_8, stepM_13, stepM_18]
theorem questionM_s3 (b : List UInt8) (m : PM) : questionM b m 3 = ({ fault := (fQ b fuel m []).1.num, asks := if (fQ b fuel m []).1 = .ok then (fQ b fuel m []).2.1 else [] }, (fQ b fuel m []).2.2) := by
  unfold questionM; rw [if_neg (by decide), if_pos rfl]
theorem partM_s2 (b : List UInt8) (m : PM) (s : Nat) : partM b m s 2 = ({ fault := (eR b s fuel m []).1.num, recs := if (eR b s fuel m []).1 = .ok then (eR b s fuel m []).2.1 else [] }, (eR b s fuel m []).2.2) := by
  unfold partM; rw [if_neg (by decide), if_neg (by decide), if_pos rfl]
theorem unpackM_eq (b : List UInt8) : unpackM b = unpackN b := by
  unfold unpackM unpackN
  rw [parse5]
  by_cases hl : b.length < 12
  · rw [if_pos hl]
    simp [startM, hl]
  · rw [if_neg hl]
    have hst : startM b = ({ id := w16 b 0, bits := w16 b 2 }, { sec := 1, at_ := 12 }) := by unfold startM; rw [if_neg hl]
    simp only [hst, questionM_s3, partM_s2, num_zero, true_and]
    generalize fQ b fuel { sec := 1, at_ := 12 } [] = q1
    obtain ⟨k1, al, m1⟩ := q1
    cases k1 <;> simp only [reduceCtorEq, false_and, if_false, if_true, true_and]
    generalize eR b 2 fuel m1 [] = q2
    obtain ⟨k2, r1, m2⟩ := q2
    cases k2 <;> simp only [reduceCtorEq, false_and, if_false, if_true, true_and]
    generalize eR b 3 fuel m2 [] = q3
    obtain ⟨k3, r2, m3⟩ := q3
    cases k3 <;> simp only [reduceCtorEq, false_and, if_false, if_true, true_and]
    generalize eR b 4 fuel m3 [] = q4
    obtain ⟨k4, r3, m4⟩ := q4
    cases k4 <;> simp only [reduceCtorEq, if_false, if_true]
section
variable {b : List UInt8} (c : List UInt8)
theorem byteAt_app {i : Nat} (h : i < b.length) : eB (b ++ c) i = eB b i := by
  unfold eB; simp [List.getD, List.getElem?_append_left h]
variable (h12 : 12 ≤ b.length)
include h12
end
end Go.Proofs.YtgpfjlfkaoffeaaGreatDoor
namespace Go.Proofs.YtgpfjlfkaoffeaaGreatDoor
open Go
end Go.Proofs.YtgpfjlfkaoffeaaGreatDoor

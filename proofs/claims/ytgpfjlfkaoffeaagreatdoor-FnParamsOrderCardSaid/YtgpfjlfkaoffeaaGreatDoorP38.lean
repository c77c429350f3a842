/- Packing: a record's body converted. Packing: records converted. Packing: a message converted. -/
import Derived.Test.YtgpfjlfkaoffeaaGreatDoorP37
import Derived.Test.YtgpfjlfkaoffeaaGreatDoorP25
set_option linter.all false
namespace Go.Proofs.YtgpfjlfkaoffeaaGreatDoor
open Go
structure Mid (r : PRec) : Prop where
 name : r.name.length ≤ 4294967296
 host : r.host.length ≤ 4294967296
 box : r.box.length ≤ 4294967296
 data : r.data.length ≤ 4294967296
 texts : r.texts.length ≤ 4294967296
 pairs : r.pairs.length ≤ 4294967296
 pair : ∀ p ∈ r.pairs, p.data.length ≤ 4294967296
theorem rowV_of {V : Vw} {b : Nat} {C : List Value} {E : TypeId} {fz : Nat × Nat} (h : V b = some (.cells C.toArray E fz)) : RowV V b C := fun j u hu => by
 unfold Vw.cell
 rw [h, Nat.zero_add]
 simpa using hu
section
variable {A : Nat → Addr} {V : Vw} {w0 : World} {r : PRec} {vd vt vp : Value}
set_option maxHeartbeats 8000000 in
theorem p_bodyOf (hV : V.In w0) (hD : RB V vd r.data) (hT : RTexts V vt r.texts) (hP : RPairs V vp r.pairs) (hb : Mid r) (h1 : 1 ≤ r.kind) (h13 : r.kind ≤ 13) : CallsV Tryz.prog 61 #[.agg (recC r vd vt vp).toArray] w0 fun v w' => ∃ V' : Vw, St ⟨w0, V, V'⟩ w' [] ∧ PBody V' r v := by
 have hn := cM (n := (fitP r.host).length) (fitP_len r.host)
 have hnb := cM (n := (fitP r.box).length) (fitP_len r.box)
 have hs := St.start hV
 have hfl : Flat (recC r vd vt vp) := (show RRec V r (recC r vd vt vp) from ⟨vd, vt, vp, rfl, hD, hT, hP⟩).flat.1
 refine aT [_] Tryz.func61 Tryz.ntmps61 Tryz.results61 rfl rfl (dP (aJ (cR hs rfl rfl rfl (fun b1 w hb1 hbe1 hs => dN rfl rfl (aH (aF (dP (lp (aR fo_30_5 rfl) rfl (lp (aO rfl (aQ cH (hs.g 0 rfl) rfl)) rfl (aH (bQ (dP (lp (bI rfl rfl) rfl (dN rfl rfl ?_))))))))))))))
 refine aH (bH rfl (fun hc0 => ?_) (fun hc0 => ?_))
 have hk : r.kind = 1 := by omega
 refine dP (lp (aO rfl (aP k_30 (hs.g 0 rfl) rfl)) rfl (aZ ok_130 rfl rfl (p_aOf hs.isIn hD) rfl (fun v21 w HF => ?_)))
 obtain ⟨rfl, hc⟩ := HF
 replace hs := hs.frame hc
 refine aJ (aX hs z_157 rfl (fun b3 w hb3 he3 hs => aJ (dR 0 hs k_157 rfl rfl rfl (by simp [padTo_len]) (by simp) (dH _) rfl (fun w hs => ?_))))
 obtain ⟨V1, hle1, hv1, hs⟩ := St.give hs hb3
 refine aH (dP (lp (cG Tryz.underlying248 (fun _ h => by cases h) rfl) rfl (dN rfl rfl (aH (aV ⟨_, res1 rfl, ?_⟩)))))
 exact ⟨V1, hs.drop hb1, by unfold PBody; rw [hk]; exact ⟨b3, rfl, rowV_of hv1⟩⟩
 have hk1 : r.kind ≠ 1 := by omega
 refine dP (lp (bI rfl rfl) rfl (dN rfl rfl (aH (bH rfl (fun hc1 => ?_) (fun hc1 => ?_)))))
 have hk : r.kind = 2 := by omega
 refine dP (lp (aO rfl (aP k_30 (hs.g 0 rfl) rfl)) rfl (aZ ok_131 rfl rfl (p_nsOf hs.isIn hb.host) rfl (fun v26 w HF => ?_)))
 obtain ⟨rfl, hc⟩ := HF
 replace hs := hs.frame hc
 refine aJ (aX hs z_163 rfl (fun b4 w hb4 he4 hs => aJ (dR 0 hs k_163 rfl rfl rfl hn (by simp) (flat_nmC _ _) rfl (fun w hs => ?_))))
 obtain ⟨V1, hle1, hv1, hs⟩ := St.give hs hb4
 refine aH (dP (lp (cG Tryz.underlying250 (fun _ h => by cases h) rfl) rfl (dN rfl rfl (aH (aV ⟨_, res1 rfl, ?_⟩)))))
 exact ⟨V1, hs.drop hb1, by unfold PBody; rw [hk]; exact ⟨b4, rfl, rowV_of hv1⟩⟩
 have hk2 : r.kind ≠ 2 := by omega
 refine dP (lp (bI rfl rfl) rfl (dN rfl rfl (aH (bH rfl (fun hc2 => ?_) (fun hc2 => ?_)))))
 have hk : r.kind = 3 := by omega
 refine dP (lp (aO rfl (aP k_30 (hs.g 0 rfl) rfl)) rfl (aZ ok_132 rfl rfl (p_cnameOf hs.isIn hb.host) rfl (fun v31 w HF => ?_)))
 obtain ⟨rfl, hc⟩ := HF
 replace hs := hs.frame hc
 refine aJ (aX hs z_168 rfl (fun b5 w hb5 he5 hs => aJ (dR 0 hs k_168 rfl rfl rfl hn (by simp) (flat_nmC _ _) rfl (fun w hs => ?_))))
 obtain ⟨V1, hle1, hv1, hs⟩ := St.give hs hb5
 refine aH (dP (lp (cG Tryz.underlying252 (fun _ h => by cases h) rfl) rfl (dN rfl rfl (aH (aV ⟨_, res1 rfl, ?_⟩)))))
 exact ⟨V1, hs.drop hb1, by unfold PBody; rw [hk]; exact ⟨b5, rfl, rowV_of hv1⟩⟩
 have hk3 : r.kind ≠ 3 := by omega
 refine dP (lp (bI rfl rfl) rfl (dN rfl rfl (aH (bH rfl (fun hc3 => ?_) (fun hc3 => ?_)))))
 have hk : r.kind = 4 := by omega
 refine dP (lp (aO rfl (aP k_30 (hs.g 0 rfl) rfl)) rfl (aZ ok_133 rfl rfl (p_soaOf hs.isIn hb.host hb.box) rfl (fun v36 w HF => ?_)))
 obtain ⟨rfl, hc⟩ := HF
 replace hs := hs.frame hc
 refine aJ (aX hs z_173 rfl (fun b6 w hb6 he6 hs => aJ (dR 0 hs k_173 rfl rfl rfl (by simp [hn, hnb]) (by simp) (flat_app (flat_nmC _ _) (flat_app (flat_nmC _ _) (aG rfl))) rfl (fun w hs => ?_))))
 obtain ⟨V1, hle1, hv1, hs⟩ := St.give hs hb6
 refine aH (dP (lp (cG Tryz.underlying254 (fun _ h => by cases h) rfl) rfl (dN rfl rfl (aH (aV ⟨_, res1 rfl, ?_⟩)))))
 exact ⟨V1, hs.drop hb1, by unfold PBody; rw [hk]; exact ⟨b6, rfl, rowV_of hv1⟩⟩
 have hk4 : r.kind ≠ 4 := by omega
 refine dP (lp (bI rfl rfl) rfl (dN rfl rfl (aH (bH rfl (fun hc4 => ?_) (fun hc4 => ?_)))))
 have hk : r.kind = 5 := by omega
 refine dP (lp (aO rfl (aP k_30 (hs.g 0 rfl) rfl)) rfl (aZ ok_134 rfl rfl (p_ptrOf hs.isIn hb.host) rfl (fun v41 w HF => ?_)))
 obtain ⟨rfl, hc⟩ := HF
 replace hs := hs.frame hc
 refine aJ (aX hs z_178 rfl (fun b7 w hb7 he7 hs => aJ (dR 0 hs k_178 rfl rfl rfl hn (by simp) (flat_nmC _ _) rfl (fun w hs => ?_))))
 obtain ⟨V1, hle1, hv1, hs⟩ := St.give hs hb7
 refine aH (dP (lp (cG Tryz.underlying256 (fun _ h => by cases h) rfl) rfl (dN rfl rfl (aH (aV ⟨_, res1 rfl, ?_⟩)))))
 exact ⟨V1, hs.drop hb1, by unfold PBody; rw [hk]; exact ⟨b7, rfl, rowV_of hv1⟩⟩
 have hk5 : r.kind ≠ 5 := by omega
 refine dP (lp (bI rfl rfl) rfl (dN rfl rfl (aH (bH rfl (fun hc5 => ?_) (fun hc5 => ?_)))))
 have hk : r.kind = 6 := by omega
 refine dP (lp (aO rfl (aP k_30 (hs.g 0 rfl) rfl)) rfl (aZ ok_135 rfl rfl (p_mxOf hs.isIn hb.host hb.box) rfl (fun v46 w HF => ?_)))
 obtain ⟨rfl, hc⟩ := HF
 replace hs := hs.frame hc
 refine aJ (aX hs z_183 rfl (fun b8 w hb8 he8 hs => aJ (dR 0 hs k_183 rfl rfl rfl (by simp [hn]) (by simp) (bX rfl (flat_nmC _ _)) rfl (fun w hs => ?_))))
 obtain ⟨V1, hle1, hv1, hs⟩ := St.give hs hb8
 refine aH (dP (lp (cG Tryz.underlying258 (fun _ h => by cases h) rfl) rfl (dN rfl rfl (aH (aV ⟨_, res1 rfl, ?_⟩)))))
 exact ⟨V1, hs.drop hb1, by unfold PBody; rw [hk]; exact ⟨b8, rfl, rowV_of hv1⟩⟩
 have hk6 : r.kind ≠ 6 := by omega
 refine dP (lp (bI rfl rfl) rfl (dN rfl rfl (aH (bH rfl (fun hc6 => ?_) (fun hc6 => ?_)))))
 have hk : r.kind = 7 := by omega
 refine dP (lp (aO rfl (aP k_30 (hs.g 0 rfl) rfl)) rfl (aZ ok_136 rfl rfl (p_txtOf hs.isIn hT hb.texts) rfl (fun v51 w HF => ?_)))
 obtain ⟨V2, tv, rfl, hc, hX⟩ := HF
 replace hs := hs.frame hc
 refine aJ (aX hs z_188 rfl (fun b9 w hb9 he9 hs => aJ (dR 0 hs k_188 rfl rfl rfl rfl (by simp) (bX hX.oneCell flat_nil) rfl (fun w hs => ?_))))
 obtain ⟨V1, hle1, hv1, hs⟩ := St.give hs hb9
 refine aH (dP (lp (cG Tryz.underlying260 (fun _ h => by cases h) rfl) rfl (dN rfl rfl (aH (aV ⟨_, res1 rfl, ?_⟩)))))
 exact ⟨V1, hs.drop hb1, by unfold PBody; rw [hk]; exact ⟨b9, tv, rfl, rowV_of hv1, hX.mono hle1⟩⟩
 have hk7 : r.kind ≠ 7 := by omega
 refine dP (lp (bI rfl rfl) rfl (dN rfl rfl (aH (bH rfl (fun hc7 => ?_) (fun hc7 => ?_)))))
 have hk : r.kind = 8 := by omega
 refine dP (lp (aO rfl (aP k_30 (hs.g 0 rfl) rfl)) rfl (aZ ok_137 rfl rfl (p_aaaaOf hs.isIn hD) rfl (fun v56 w HF => ?_)))
 obtain ⟨rfl, hc⟩ := HF
 replace hs := hs.frame hc
 refine aJ (aX hs z_194 rfl (fun b10 w hb10 he10 hs => aJ (dR 0 hs k_194 rfl rfl rfl (by simp [padTo_len]) (by simp) (dH _) rfl (fun w hs => ?_))))
 obtain ⟨V1, hle1, hv1, hs⟩ := St.give hs hb10
 refine aH (dP (lp (cG Tryz.underlying262 (fun _ h => by cases h) rfl) rfl (dN rfl rfl (aH (aV ⟨_, res1 rfl, ?_⟩)))))
 exact ⟨V1, hs.drop hb1, by unfold PBody; rw [hk]; exact ⟨b10, rfl, rowV_of hv1⟩⟩
 have hk8 : r.kind ≠ 8 := by omega
 refine dP (lp (bI rfl rfl) rfl (dN rfl rfl (aH (bH rfl (fun hc8 => ?_) (fun hc8 => ?_)))))
 have hk : r.kind = 9 := by omega
 refine dP (lp (aO rfl (aP k_30 (hs.g 0 rfl) rfl)) rfl (aZ ok_138 rfl rfl (p_srvOf hs.isIn hb.host hb.box) rfl (fun v61 w HF => ?_)))
 obtain ⟨rfl, hc⟩ := HF
 replace hs := hs.frame hc
 refine aJ (aX hs z_199 rfl (fun b11 w hb11 he11 hs => aJ (dR 0 hs k_199 rfl rfl rfl (by simp [hn]) (by simp) (bX rfl (bX rfl (bX rfl (flat_nmC _ _)))) rfl (fun w hs => ?_))))
 obtain ⟨V1, hle1, hv1, hs⟩ := St.give hs hb11
 refine aH (dP (lp (cG Tryz.underlying264 (fun _ h => by cases h) rfl) rfl (dN rfl rfl (aH (aV ⟨_, res1 rfl, ?_⟩)))))
 exact ⟨V1, hs.drop hb1, by unfold PBody; rw [hk]; exact ⟨b11, rfl, rowV_of hv1⟩⟩
 have hk9 : r.kind ≠ 9 := by omega
 refine dP (lp (bI rfl rfl) rfl (dN rfl rfl (aH (bH rfl (fun hc9 => ?_) (fun hc9 => ?_)))))
 have hk : r.kind = 10 := by omega
 refine dP (lp (aO rfl (aP k_30 (hs.g 0 rfl) rfl)) rfl (aZ ok_139 rfl rfl (p_optOf hs.isIn hP hb.pairs hb.pair) rfl (fun v66 w HF => ?_)))
 obtain ⟨V2, tv, rfl, hc, hX⟩ := HF
 replace hs := hs.frame hc
 refine aJ (aX hs z_205 rfl (fun b12 w hb12 he12 hs => aJ (dR 0 hs k_205 rfl rfl rfl rfl (by simp) (bX hX.oneCell flat_nil) rfl (fun w hs => ?_))))
 obtain ⟨V1, hle1, hv1, hs⟩ := St.give hs hb12
 refine aH (dP (lp (cG Tryz.underlying266 (fun _ h => by cases h) rfl) rfl (dN rfl rfl (aH (aV ⟨_, res1 rfl, ?_⟩)))))
 exact ⟨V1, hs.drop hb1, by unfold PBody; rw [hk]; exact ⟨b12, tv, rfl, rowV_of hv1, hX.mono hle1⟩⟩
 have hk10 : r.kind ≠ 10 := by omega
 refine dP (lp (bI rfl rfl) rfl (dN rfl rfl (aH (bH rfl (fun hc10 => ?_) (fun hc10 => ?_)))))
 have hk : r.kind = 11 := by omega
 refine dP (lp (aO rfl (aP k_30 (hs.g 0 rfl) rfl)) rfl (aZ ok_140 rfl rfl (p_svcbOf hs.isIn hb.host hP hb.pairs hb.pair) rfl (fun v71 w HF => ?_)))
 obtain ⟨V2, tv, rfl, hc, hX⟩ := HF
 replace hs := hs.frame hc
 refine aJ (aX hs z_211 rfl (fun b13 w hb13 he13 hs => aJ (dR 0 hs k_211 rfl rfl rfl (by simp [svcC, hn]) (by simp) (bX rfl (flat_app (flat_nmC _ _) (bX hX.oneCell flat_nil))) rfl (fun w hs => ?_))))
 obtain ⟨V1, hle1, hv1, hs⟩ := St.give hs hb13
 refine aH (dP (lp (cG Tryz.underlying268 (fun _ h => by cases h) rfl) rfl (dN rfl rfl (aH (aV ⟨_, res1 rfl, ?_⟩)))))
 exact ⟨V1, hs.drop hb1, by unfold PBody; rw [hk]; exact ⟨b13, tv, rfl, rowV_of hv1, hX.mono hle1⟩⟩
 have hk11 : r.kind ≠ 11 := by omega
 refine dP (lp (bI rfl rfl) rfl (dN rfl rfl (aH (bH rfl (fun hc11 => ?_) (fun hc11 => ?_)))))
 have hk : r.kind = 12 := by omega
 refine dP (lp (aO rfl (aP k_30 (hs.g 0 rfl) rfl)) rfl (aZ ok_141 rfl rfl (p_httpsOf hs.isIn hb.host hP hb.pairs hb.pair) rfl (fun v76 w HF => ?_)))
 obtain ⟨V2, tv, rfl, hc, hX⟩ := HF
 replace hs := hs.frame hc
 refine aJ (aX hs z_216 rfl (fun b14 w hb14 he14 hs => aJ (dR 0 hs k_216 rfl rfl rfl (by simp [svcC, hn]) (by simp) (bX rfl (flat_app (flat_nmC _ _) (bX hX.oneCell flat_nil))) rfl (fun w hs => ?_))))
 obtain ⟨V1, hle1, hv1, hs⟩ := St.give hs hb14
 refine aH (dP (lp (cG Tryz.underlying270 (fun _ h => by cases h) rfl) rfl (dN rfl rfl (aH (aV ⟨_, res1 rfl, ?_⟩)))))
 exact ⟨V1, hs.drop hb1, by unfold PBody; rw [hk]; exact ⟨b14, tv, rfl, rowV_of hv1, hX.mono hle1⟩⟩
 have hk12 : r.kind ≠ 12 := by omega
 refine dP (lp (bI rfl rfl) rfl (dN rfl rfl (aH (bH rfl (fun hc12 => ?_) (fun hc12 => ?_)))))
 have hk : r.kind = 13 := by omega
 refine dP (lp (aO rfl (aP k_30 (hs.g 0 rfl) rfl)) rfl (aZ ok_142 rfl rfl (p_unknownOf hs.isIn hD hb.data) rfl (fun v81 w HF => ?_)))
 obtain ⟨V2, tv, rfl, hc, hX⟩ := HF
 replace hs := hs.frame hc
 refine aJ (aX hs z_221 rfl (fun b15 w hb15 he15 hs => aJ (dR 0 hs k_221 rfl rfl rfl rfl (by simp) (bX rfl (bX hX.oneCell flat_nil)) rfl (fun w hs => ?_))))
 obtain ⟨V1, hle1, hv1, hs⟩ := St.give hs hb15
 refine aH (dP (lp (cG Tryz.underlying272 (fun _ h => by cases h) rfl) rfl (dN rfl rfl (aH (aV ⟨_, res1 rfl, ?_⟩)))))
 exact ⟨V1, hs.drop hb1, by unfold PBody; rw [hk]; exact ⟨b15, tv, rfl, rowV_of hv1, hX.mono hle1⟩⟩
 omega
end
end Go.Proofs.YtgpfjlfkaoffeaaGreatDoor
namespace Go.Proofs.YtgpfjlfkaoffeaaGreatDoor
open Go
theorem RowV.mono {V V' : Vw} (hV : V.le V') {b : Nat} {C : List Value} (h : RowV V b C) : RowV V' b C := fun j u hu => Vw.cell_le hV (h j u hu)
theorem PBody.mono {V V' : Vw} (hV : V.le V') {r : PRec} {v : Value} (h1 : 1 ≤ r.kind) (h13 : r.kind ≤ 13) (h : PBody V r v) : PBody V' r v := by
 have hcases : r.kind = 1 ∨ r.kind = 2 ∨ r.kind = 3 ∨ r.kind = 4 ∨ r.kind = 5 ∨ r.kind = 6 ∨ r.kind = 7 ∨ r.kind = 8 ∨ r.kind = 9 ∨ r.kind = 10 ∨ r.kind = 11 ∨ r.kind = 12 ∨ r.kind = 13 := by omega
 unfold PBody at h ⊢
 rcases hcases with hk | hk | hk | hk | hk | hk | hk | hk | hk | hk | hk | hk | hk <;> rw [hk] at h ⊢ <;> simp only at h ⊢ <;>
  first | (obtain ⟨b, rfl, hB⟩ := h; exact ⟨b, rfl, hB.mono hV⟩) | (obtain ⟨b, pv, rfl, hB, hX⟩ := h; exact ⟨b, pv, rfl, hB.mono hV, hX.mono hV⟩)
theorem PBody.oneCell {V : Vw} {r : PRec} {v : Value} (h1 : 1 ≤ r.kind) (h13 : r.kind ≤ 13) (h : PBody V r v) : v.oneCell' = true := by
 have hcases : r.kind = 1 ∨ r.kind = 2 ∨ r.kind = 3 ∨ r.kind = 4 ∨ r.kind = 5 ∨ r.kind = 6 ∨ r.kind = 7 ∨ r.kind = 8 ∨ r.kind = 9 ∨ r.kind = 10 ∨ r.kind = 11 ∨ r.kind = 12 ∨ r.kind = 13 := by omega
 unfold PBody at h
 rcases hcases with hk | hk | hk | hk | hk | hk | hk | hk | hk | hk | hk | hk | hk <;> rw [hk] at h <;> simp only at h <;>
  first | (obtain ⟨b, rfl, hB⟩ := h; rfl) | (obtain ⟨b, pv, rfl, hB, hX⟩ := h; rfl)
theorem rows_mono_mem {α : Type} {size : Nat} {R R' : α → List Value → Prop} : ∀ {l2 : List α} {xs : List Value}, (∀ a c, a ∈ l2 → R a c → R' a c) → Rows size R l2 xs → Rows size R' l2 xs
 | [], _, _, h => h
 | _ :: _, _, hR, ⟨c, rest, h0, h1, h2, h3⟩ => ⟨c, rest, h0, h1, hR _ c (List.mem_cons_self ..) h2, rows_mono_mem (fun b d hb => hR b d (List.mem_cons_of_mem _ hb)) h3⟩
def ResR (V : Vw) (r : PRec) (c : List Value) : Prop := ∃ bv, c = resC (fitP r.name) r.type r.cls r.ttl r.length bv ∧ PBody V r bv
theorem resC_len {s : List UInt8} {ty cl ttl len : Nat} {bv : Value} (h : s.length ≤ 255) : (resC s ty cl ttl len bv).length = 261 := by
 have hn := cM (n := s.length) h
 simp [resC, rhdC, hn]
theorem resC_flat {s : List UInt8} {ty cl ttl len : Nat} {bv : Value} (h : bv.oneCell' = true) : Flat (resC s ty cl ttl len bv) := flat_app (flat_app (flat_nmC _ _) (aG rfl)) (bX h flat_nil)
theorem Sl.notNil {E : TypeId} {size n : Nat} {B : Base} {w : World} {L : List (Nat × Obj)} {v : Value} {xs : List Value} (h : Sl E size B w L v n xs) (hn : 0 < n) : v ≠ .slice none 0 0 := by
 rcases h.2 with ⟨_, h2, _⟩ | ⟨g, cap, sp, rfl, _⟩
 omega
 intro e; cases e
section
variable {A : Nat → Addr} {V : Vw} {w0 : World} {l : List PRec} {lv : Value}
set_option maxHeartbeats 4000000 in
theorem p_resourcesOf (hV : V.In w0) (hL : RRecs V lv l) (hn : l.length ≤ 4294967296) (hm : ∀ r ∈ l, Mid r ∧ 1 ≤ r.kind ∧ r.kind ≤ 13) :
  CallsV Tryz.prog 33 #[lv] w0 fun v w' => ∃ (V' : Vw) (xs : List Value), v ≠ .slice none 0 0 ∧ Sl 116 261 ⟨w0, V, V'⟩ w' [] v l.length xs ∧ Rows 261 (ResR V') l xs := by
 obtain ⟨xs, hS, hR⟩ := hL
 obtain ⟨a, cap, rfl, hcap, ha⟩ := hS.form
 have hs := St.start hV
 refine aT [_] Tryz.func33 Tryz.ntmps33 Tryz.results33 rfl rfl (dP (dN rfl rfl (aH (dP (aJ (o_bslice0 es_52 hs rfl (fun b6 w hb6 he6 hs => ?_)))))))
 have hsl : Sl 116 261 ⟨w0, V, V⟩ w [] (.slice (some ⟨b6, 0, none⟩) 0 0) 0 [] := Sl.empty hs hb6
 refine dN rfl rfl (aH (aF (dP (dM rfl rfl (lp (bC Tryz.underlying31 rfl) rfl (dM rfl rfl (aH (bQ (dC (fun g : Nat × List Value × Value × Vw => upd (upd (upd (upd emp 9 (.int .i64 g.1)) 8 (.int .i64 l.length)) 7 (.slice a l.length cap)) 3 g.2.2.1) (fun g w' => Sl 116 261 ⟨w0, V, g.2.2.2⟩ w' [] g.2.2.1 g.1 g.2.1 ∧ Rows 261 (ResR g.2.2.2) (l.take g.1) g.2.1 ∧ g.1 ≤ l.length ∧ g.2.2.1 ≠ .slice none 0 0) (fun g => l.length - g.1) (0, [], .slice (some ⟨b6, 0, none⟩) 0 0, V) (aL rfl (aL rfl (aL rfl (aL rfl (bG _))))) ⟨hsl, rfl, Nat.zero_le _, fun e => by cases e⟩ ?_)))))))))
 clear hsl hs
 rintro ⟨j, ys, sv, Vc⟩ w ⟨hsl, hrows, hj, hsv0⟩
 simp only at hsl hrows hj hsv0 ⊢
 have hle := hsl.st.view
 refine dP (lp (cY rfl rfl) rfl (aH (aF (bH rfl (fun hc0 => ?_) (fun hc0 => ?_)))))
 obtain ⟨b, p, rfl, hc⟩ := ha (by omega)
 have hjl : j < l.length := by omega
 obtain ⟨c, ⟨vd, vt, vp, rfl, hD, hT, hP⟩, hcl, hct⟩ := hR.at (List.getElem?_eq_getElem hjl)
 obtain ⟨hmid, hk1, hk13⟩ := hm _ (List.getElem_mem hjl)
 have hfl : Flat (recC l[j] vd vt vp) := (show RRec V l[j] (recC l[j] vd vt vp) from ⟨vd, vt, vp, rfl, hD, hT, hP⟩).flat.1
 obtain ⟨X, hX, hs⟩ := hsl.open
 refine aW (aF (bQ (dP (lp (po_iaN j (p + j * 16) es_31 rfl rfl rfl hjl rfl) rfl ?_))))
 refine lp (aO rfl (ld_cells (l := recC l[j] vd vt vp) k_30 rfl (fun i u hu => by
  rw [Nat.add_assoc]
  exact Vw.cell_in hs.isIn (Vw.cell_le hle (hc _ _ (cell_at hct hu)))))) rfl ?_
 refine aJ (aX hs z_30 rfl (fun b5 w hb5 he5 hs => aJ (dR 0 hs k_30 rfl rfl rfl rfl rfl hfl rfl (fun w hs => aH (e_draw (fun w2 => w2.heap[b5]? = some (.cells (recC l[j] vd vt vp).toArray 30 (0, 0))) [1, 3] mixed (fun w hw => ?_))))))
 replace hs := hw.st hs
 refine dI 0 rfl (fun w => aC rfl) rfl rfl (dJ 1 rfl (hs.g 0 rfl) rfl (fun w hf => (aO rfl (aP k_30 hf rfl))) rfl (dJ 3 rfl (hs.g 0 rfl) rfl (fun w hf => (aO rfl (aP k_30 hf rfl))) rfl (dL 2 rfl (cF (cD rfl rfl ok_60 (p_resourceHeaderOf hs.isIn hmid.name)) rfl (fun v15 w HF => ?_)))))
 obtain ⟨rfl, hc2⟩ := HF
 replace hs := hs.frame hc2
 refine ⟨fun _ => hs.g 0 rfl, dL 4 rfl (cF (cD rfl rfl ok_61 (p_bodyOf hs.isIn (hD.mono hle) (hT.mono hle) (hP.mono hle) hmid hk1 hk13)) rfl (fun v17 w HF => ?_))⟩
 obtain ⟨V', hc3, hPB⟩ := HF
 have hle' := hc3.view
 replace hs := hs.frame hc3
 have hbo := hPB.oneCell hk1 hk13
 refine ⟨fun _ => hs.g 0 rfl, dI 5 rfl (fun w => (po_buildG [rhdC (fitP l[j].name) l[j].type l[j].cls l[j].ttl l[j].length, [v17]] st_116 rfl rfl (by simp only [List.map_cons, List.map_nil, cells_one hbo]; rfl) (by simp [rhdC, cM (fitP_len _)]) (show [rhdC (fitP l[j].name) l[j].type l[j].cls l[j].ttl l[j].length, [v17]].flatten = resC (fitP l[j].name) l[j].type l[j].cls l[j].ttl l[j].length v17 by simp [resC]))) rfl rfl (dL 6 rfl (o_bslice (vls := [resC (fitP l[j].name) l[j].type l[j].cls l[j].ttl l[j].length v17]) el_52 hs rfl rfl rfl rfl (by intro q hq; simp at hq; subst hq; exact resC_len (fitP_len _)) (by decide) (by decide) rfl (fun b19 w hb19 he19 hs => ?_)))⟩
 rw [show [resC (fitP l[j].name) l[j].type l[j].cls l[j].ttl l[j].length v17].flatten = resC (fitP l[j].name) l[j].type l[j].cls l[j].ttl l[j].length v17 by simp] at hs
 refine ⟨fun _ => hs.g 1 rfl, dL 7 rfl (o_append (k := 1) (news := resC (fitP l[j].name) l[j].type l[j].cls l[j].ttl l[j].length v17) el_52 (.inr ⟨_, Tryz.underlying52⟩) (SlX.close (L := [_, _]) hX hs) rfl rfl (src_own (k := 0) hs rfl (resC_len (fitP_len _))) (resC_flat hbo) (by omega) (by omega) rfl (fun v20 w hs => ⟨fun _ => hs.st.get (k := 1) rfl, ?_⟩))⟩
 replace hs := (hs.drop hb19).drop hb5
 refine dI 8 rfl (fun w => aD rfl) rfl rfl (bS (by decide +kernel) (aB (lp (bN rfl rfl (i64c (c := j + 1) (by omega) (by omega))) rfl (dM rfl rfl (aH ?_)))))
 exact ⟨(j + 1, _, v20, V'), aL rfl (aL rfl (aL rfl (aL rfl (bG _)))), ⟨hs, by
  show Rows 261 (ResR V') (l.take (j + 1)) _
  rw [List.take_add_one, List.getElem?_eq_getElem hjl]
  refine Rows.snoc ?_ ⟨v17, rfl, hPB⟩ (resC_len (fitP_len _))
  have hk : ∀ r ∈ l.take j, 1 ≤ r.kind ∧ r.kind ≤ 13 := fun r hr => (hm r (List.mem_of_mem_take hr)).2
  exact rows_mono_mem (fun r c hr ⟨bv, h1, h2⟩ => ⟨bv, h1, h2.mono hle' (hk r hr).1 (hk r hr).2⟩) hrows, by simp only; omega, hs.notNil (by omega)⟩, by simp only; omega⟩
 refine e_exit (aF ?_)
 have hjn : j = l.length := by omega
 subst hjn
 rw [List.take_length] at hrows
 refine aB (dM rfl rfl (dN rfl rfl (aH (aV ⟨_, res1 rfl, ?_⟩))))
 exact ⟨Vc, ys, hsv0, hsl, hrows⟩
end
end Go.Proofs.YtgpfjlfkaoffeaaGreatDoor
namespace Go.Proofs.YtgpfjlfkaoffeaaGreatDoor
open Go
theorem St.frameL {w0 w w1 : World} {V0 V V' : Vw} {L : List (Nat × Obj)} (h : St ⟨w0, V0, V⟩ w L) : ∀ {M : List (Nat × Obj)}, St ⟨w, V, V'⟩ w1 M → (∀ x ∈ M, w.heap.size ≤ x.1) → St ⟨w0, V0, V'⟩ w1 (M ++ L)
 | [], hc, _ => h.frame hc
 | (b, o) :: M, hc, hb => by
  have hb1 := hb _ (List.mem_cons_self ..)
  refine (h.frameL (hc.drop hb1) (fun x hx => hb x (List.mem_cons_of_mem _ hx))).add (hc.get (k := 0) rfl) (hc.unf _ (List.mem_cons_self ..)) (fun x hx e => ?_) (hc.off (k := 0) rfl)
  rcases List.mem_append.1 hx with hx | hx
  have := hc.nodup
  simp only [List.map_cons, List.nodup_cons] at this
  exact this.1 (e ▸ List.mem_map_of_mem hx)
  have := h.lt hx
  simp only at hb1; omega
theorem Sl.block {E : TypeId} {size n : Nat} {B : Base} {w : World} {L : List (Nat × Obj)} {v : Value} {xs : List Value} (h : Sl E size B w L v n xs) (hv : v ≠ .slice none 0 0) :
  ∃ g cap sp, v = .slice (some ⟨g, 0, none⟩) n cap ∧ B.heap.size ≤ g ∧ St B w ((g, .cells (xs ++ sp).toArray E (0, 0)) :: L) := by
 rcases h.2 with ⟨h1, _⟩ | ⟨g, cap, sp, h1, _, _, _, h2, h3⟩
 exact absurd h1 hv
 exact ⟨g, cap, sp, h1, h2, h3⟩
structure RecOk (r : PRec) : Prop where
 mid : Mid r
 fit : FitR r
 k1 : 1 ≤ r.kind
 k13 : r.kind ≤ 13
 type : typeOfKind r < 65536
 cls : r.cls < 65536
 length : r.length < 65536
theorem Sec.of {V : Vw} {l : List PRec} {xs sp : List Value} (h : Rows 261 (ResR V) l xs) (hf : ∀ r ∈ l, RecOk r) : Sec V (xs ++ sp) l := by
 refine ⟨by rw [List.length_append, h.len]; omega, fun i hi => ?_, fun r hr => ?_⟩
 obtain ⟨c, ⟨bv, rfl, hB⟩, hcl, hct⟩ := h.at (List.getElem?_eq_getElem hi)
 refine ⟨bv, fun j u hu => ?_, hB⟩
 have h1 := cell_at hct hu
 have h2 : i * 261 + j < xs.length := by
  rcases Nat.lt_or_ge (i * 261 + j) xs.length with h | h
  exact h
  rw [List.getElem?_eq_none h] at h1; cases h1
 rw [List.getElem?_append_left h2]; exact h1
 have h := hf r hr
 exact ⟨h.fit, h.k1, h.k13, h.type, h.cls, h.length⟩
theorem Sec.mono {V V' : Vw} (hV : V.le V') {l : List PRec} {rs : List Value} (h : Sec V rs l) : Sec V' rs l := by
 refine ⟨h.len, fun i hi => ?_, h.fit⟩
 obtain ⟨bv, h1, h2⟩ := h.row i hi
 have hk := (h.fit _ (List.getElem_mem hi)).2
 exact ⟨bv, h1, h2.mono hV hk.1 hk.2.1⟩
structure MOk (m : PMess) : Prop where
 nq : m.asks.length ≤ 65535
 na : m.answers.length ≤ 65535
 nu : m.authorities.length ≤ 65535
 nd : m.additionals.length ≤ 65535
 ask : ∀ a ∈ m.asks, a.name.length ≤ 4294967296 ∧ a.type < 65536 ∧ a.cls < 65536
 ans : ∀ r ∈ m.answers, RecOk r
 aut : ∀ r ∈ m.authorities, RecOk r
 add : ∀ r ∈ m.additionals, RecOk r
 id : m.head.id < 65536
 op : m.head.op < 16
 code : m.head.code < 16
def msgV (m : PMess) (bq cq ba ca bu cu bd cd : Nat) : List Value :=
 headV m.head ++ [.slice (some ⟨bq, 0, none⟩) m.asks.length cq, .slice (some ⟨ba, 0, none⟩) m.answers.length ca, .slice (some ⟨bu, 0, none⟩) m.authorities.length cu, .slice (some ⟨bd, 0, none⟩) m.additionals.length cd]
theorem askV_len (a : PAsk) : (askV a).length = 258 := by simp [askV, cM (fitP_len a.name)]
theorem RRecs.form {V : Vw} {v : Value} {l : List PRec} (h : RRecs V v l) : ∃ a c, v = .slice a l.length c := by
 obtain ⟨xs, hS, _⟩ := h
 obtain ⟨a, c, h1, _⟩ := hS.form
 exact ⟨a, c, h1⟩
theorem perm5 (x y z u v : Nat × Obj) : List.Perm [x, y, z, u, v] [u, v, x, y, z] := by
 have := List.perm_append_comm (l₁ := [x, y, z]) (l₂ := [u, v])
 simpa using this
section
variable {A : Nat → Addr} {V : Vw} {w0 : World} {m : PMess} {va v1 v2 v3 : Value}
set_option maxHeartbeats 8000000 in
theorem p_messageOf (hV : V.In w0) (hQ : RAsks V va m.asks) (hA : RRecs V v1 m.answers) (hU : RRecs V v2 m.authorities) (hD : RRecs V v3 m.additionals) (hm : MOk m) :
  CallsV Tryz.prog 14 #[.agg (headV m.head ++ [va, v1, v2, v3]).toArray] w0 fun v w' => ∃ (V' : Vw) (bq cq ba ca bu cu bd cd : Nat) (rsA rsU rsD : List Value),
   v = .agg (msgV m bq cq ba ca bu cu bd cd).toArray ∧ (∀ i (h : i < m.asks.length), ∀ j u, (askV m.asks[i])[j]? = some u → V'.cell bq (i * 258 + j) = some u) ∧ Sec V' rsA m.answers ∧ Sec V' rsU m.authorities ∧ Sec V' rsD m.additionals ∧
   w0.heap.size ≤ ba ∧ w0.heap.size ≤ bu ∧ w0.heap.size ≤ bd ∧
   St ⟨w0, V, V'⟩ w' [(bd, .cells rsD.toArray 116 (0, 0)), (bu, .cells rsU.toArray 116 (0, 0)), (ba, .cells rsA.toArray 116 (0, 0))] := by
 have hnq := hm.nq
 have hna := hm.na
 have hnu := hm.nu
 have hnd := hm.nd
 obtain ⟨a1, c1, rfl⟩ := hA.form
 obtain ⟨a2, c2, rfl⟩ := hU.form
 obtain ⟨a3, c3, rfl⟩ := hD.form
 obtain ⟨xs, hS, hR⟩ := hQ
 obtain ⟨a, cap, rfl, hcap, ha⟩ := hS.form
 have hs := St.start hV
 refine aT [_] Tryz.func14 Tryz.ntmps14 Tryz.results14 rfl rfl (dP (aJ (cR hs rfl rfl rfl (fun b1 w hb1 hbe1 hs => aJ (aX hs z_54 rfl (fun b2 w hb2 he2 hs => ?_))))))
 replace hs : St ⟨w0, V, V⟩ _ [(b2, .cells (headV {} ++ [Value.slice none 0 0, .slice none 0 0, .slice none 0 0, .slice none 0 0]).toArray 54 (0, 0)), (b1, .cells (headV m.head ++ [Value.slice a m.asks.length cap, .slice a1 m.answers.length c1, .slice a2 m.authorities.length c2, .slice a3 m.additionals.length c3]).toArray 36 (0, 0))] := hs
 refine aH (dP (aJ (o_bslice0 es_51 hs rfl (fun b6 w hb6 he6 hs => ?_))))
 have hsl := Sl.empty (size := 258) hs hb6
 refine dN rfl rfl (aH (aF (dP (lp (aR fo_36_1 rfl) rfl (lp (aO rfl (cT (a := headV m.head) (i := 0) k_34 (hs.g 2 rfl) rfl rfl rfl)) rfl (lp (bC Tryz.underlying34 rfl) rfl (dM rfl rfl (aH (bQ (dC (fun g : Nat × List Value × Value => upd (upd (upd (upd (upd (upd emp 10 (.int .i64 g.1)) 9 (.int .i64 m.asks.length)) 8 (.slice a m.asks.length cap)) 3 g.2.2) 2 (.pointer (some ⟨b2, 0, none⟩))) 1 (.pointer (some ⟨b1, 0, none⟩))) (fun g w' => Sl 90 258 ⟨w0, V, V⟩ w' [(b2, .cells (headV {} ++ [Value.slice none 0 0, .slice none 0 0, .slice none 0 0, .slice none 0 0]).toArray 54 (0, 0)), (b1, .cells (headV m.head ++ [Value.slice a m.asks.length cap, .slice a1 m.answers.length c1, .slice a2 m.authorities.length c2, .slice a3 m.additionals.length c3]).toArray 36 (0, 0))] g.2.2 g.1 g.2.1 ∧ Rows 258 (fun x c => c = askV x) (m.asks.take g.1) g.2.1 ∧ g.1 ≤ m.asks.length ∧ g.2.2 ≠ .slice none 0 0) (fun g => m.asks.length - g.1) (0, [], .slice (some ⟨b6, 0, none⟩) 0 0) (aL rfl (aL rfl (aL rfl (aL rfl (aL rfl (aL rfl (bG _))))))) ⟨hsl, rfl, Nat.zero_le _, fun e => by cases e⟩ ?_))))))))))
 clear hsl hs
 rintro ⟨j, ys, sv⟩ w ⟨hsl, hrows, hj, hsv0⟩
 simp only at hsl hrows hj hsv0 ⊢
 refine dP (lp (cY rfl rfl) rfl (aH (aF (bH rfl (fun hc0 => ?_) (fun hc0 => ?_)))))
 obtain ⟨b, p, rfl, hca⟩ := ha (by omega)
 have hjl : j < m.asks.length := by omega
 obtain ⟨c, rfl, hcl, hct⟩ := hR.at (List.getElem?_eq_getElem hjl)
 obtain ⟨hnm, _, _⟩ := hm.ask _ (List.getElem_mem hjl)
 obtain ⟨X, hX, hs⟩ := hsl.open
 refine aW (aF (bQ (dP (lp (po_iaN j (p + j * 3) es_34 rfl rfl rfl hjl rfl) rfl ?_))))
 refine lp (aO rfl (ld_cells (l := askC m.asks[j]) k_77 rfl (fun i u hu => by
  rw [Nat.add_assoc]
  exact Vw.cell_in hs.isIn (hca _ _ (cell_at hct hu))))) rfl ?_
 refine aJ (aX hs z_77 rfl (fun b5 w hb5 he5 hs => aJ (dR 0 hs k_77 rfl rfl rfl rfl rfl (aG rfl) rfl (fun w hs => aH (aB (dM rfl rfl (lp (aO rfl (aP k_77 (hs.g 0 rfl) rfl)) rfl (aZ ok_31 rfl rfl (p_questionOf hs.isIn m.asks[j] hnm) rfl (fun v16 w HF => ?_)))))))))
 obtain ⟨rfl, hc⟩ := HF
 replace hs := hs.frame hc
 refine aJ (o_bslice (vls := [askV m.asks[j]]) el_51 hs rfl rfl rfl rfl (by intro q hq; simp at hq; subst hq; exact askV_len _) (by decide) (by decide) rfl (fun b17 w hb17 he17 hs => ?_))
 rw [show [askV m.asks[j]].flatten = askV m.asks[j] by simp] at hs
 refine aJ (o_append (k := 1) (news := askV m.asks[j]) el_51 (.inr ⟨_, Tryz.underlying51⟩) (SlX.close (L := [_, _, _, _]) hX hs) rfl rfl (src_own (k := 0) hs rfl (askV_len _)) (flat_app (flat_nmC _ _) (aG rfl)) (by omega) (by omega) rfl (fun v18 w hs => ?_))
 replace hs := (hs.drop hb17).drop hb5
 refine dN rfl rfl (aH (aB (lp (bN rfl rfl (i64c (c := j + 1) (by omega) (by omega))) rfl (dM rfl rfl (aH ?_)))))
 exact ⟨(j + 1, _, v18), aL rfl (aL rfl (aL rfl (aL rfl (aL rfl (aL rfl (bG _)))))), ⟨hs, by
  show Rows 258 _ (m.asks.take (j + 1)) _
  rw [List.take_add_one, List.getElem?_eq_getElem hjl]
  exact Rows.snoc hrows rfl (askV_len _), by simp only; omega, hs.notNil (by omega)⟩, by simp only; omega⟩
 refine e_exit (aF ?_)
 have hjn : j = m.asks.length := by omega
 subst hjn
 rw [List.take_length] at hrows
 obtain ⟨bq, cq, spq, rfl, hbq, hs⟩ := hsl.block hsv0
 obtain ⟨V1, hle1, hvq, hs⟩ := St.give hs hbq
 refine e_draw (fun w2 => w2.heap[b1]? = some (.cells (headV m.head ++ [Value.slice a m.asks.length cap, .slice a1 m.answers.length c1, .slice a2 m.authorities.length c2, .slice a3 m.additionals.length c3]).toArray 36 (0, 0))) [1, 5, 8, 11] mixed (fun w hw => ?_)
 replace hs := hw.st hs
 refine dI 0 rfl (fun w => aR fo_36_0 rfl) rfl rfl (dJ 1 rfl (hs.g 1 rfl) rfl (fun w hf => (aO rfl (ld_hd (a := headV m.head) bZ hf rfl))) rfl (dI 3 rfl (fun w => aC rfl) rfl rfl (dI 4 rfl (fun w => aR fo_36_2 rfl) rfl rfl (dJ 5 rfl (hs.g 1 rfl) rfl (fun w hf => (aO rfl (cT (a := headV m.head) k_31 hf rfl (i := 1) rfl rfl))) rfl (dI 7 rfl (fun w => aR fo_36_3 rfl) rfl rfl (dJ 8 rfl (hs.g 1 rfl) rfl (fun w hf => (aO rfl (cT (a := headV m.head) k_31 hf rfl (i := 2) rfl rfl))) rfl (dI 10 rfl (fun w => aR fo_36_4 rfl) rfl rfl (dJ 11 rfl (hs.g 1 rfl) rfl (fun w hf => (aO rfl (cT (a := headV m.head) k_31 hf rfl (i := 3) rfl rfl))) rfl (dL 2 rfl (cF (cD rfl rfl ok_32 (p_headerOf hs.isIn m.head)) rfl (fun v22 w HF => ?_)))))))))))
 obtain ⟨rfl, hc⟩ := HF
 replace hs := hs.frame hc
 refine ⟨fun _ => hs.g 1 rfl, dL 6 rfl (cF (cD rfl rfl ok_33 (p_resourcesOf hs.isIn (hA.mono (Vw.le_trans hle1 V1.le_refl)) (by omega) (fun r hr => ⟨(hm.ans r hr).mid, (hm.ans r hr).k1, (hm.ans r hr).k13⟩))) rfl (fun v26 w HF => ?_))⟩
 obtain ⟨V2, xsA, hn26, hslA, hrA⟩ := HF
 have hleA := hslA.st.view
 obtain ⟨ba, ca, spA, rfl, hba, hcA⟩ := hslA.block hn26
 have hba' := Nat.le_trans hs.size hba
 replace hs := hs.frameL hcA (fun x hx => by simp at hx; subst hx; exact hba)
 refine ⟨fun _ => hs.g 2 rfl, dL 9 rfl (cF (cD rfl rfl ok_33 (p_resourcesOf hs.isIn (hU.mono (Vw.le_trans hle1 hleA)) (by omega) (fun r hr => ⟨(hm.aut r hr).mid, (hm.aut r hr).k1, (hm.aut r hr).k13⟩))) rfl (fun v29 w HF => ?_))⟩
 obtain ⟨V3, xsU, hn29, hslU, hrU⟩ := HF
 have hleU := hslU.st.view
 obtain ⟨bu, cu, spU, rfl, hbu, hcU⟩ := hslU.block hn29
 have hbu' := Nat.le_trans hs.size hbu
 replace hs := hs.frameL hcU (fun x hx => by simp at hx; subst hx; exact hbu)
 refine ⟨fun _ => hs.g 3 rfl, dL 12 rfl (cF (cD rfl rfl ok_33 (p_resourcesOf hs.isIn (hD.mono (Vw.le_trans hle1 (Vw.le_trans hleA hleU))) (by omega) (fun r hr => ⟨(hm.add r hr).mid, (hm.add r hr).k1, (hm.add r hr).k13⟩))) rfl (fun v32 w HF => ?_))⟩
 obtain ⟨V4, xsD, hn32, hslD, hrD⟩ := HF
 have hleD := hslD.st.view
 obtain ⟨bd, cd, spD, rfl, hbd, hcD⟩ := hslD.block hn32
 have hbd' := Nat.le_trans hs.size hbd
 replace hs := hs.frameL hcD (fun x hx => by simp at hx; subst hx; exact hbd)
 refine ⟨fun _ => hs.g 4 rfl, dI 13 rfl (fun w => (po_buildG [headV m.head, [.slice (some ⟨bq, 0, none⟩) m.asks.length cq], [.slice (some ⟨ba, 0, none⟩) m.answers.length ca], [.slice (some ⟨bu, 0, none⟩) m.authorities.length cu], [.slice (some ⟨bd, 0, none⟩) m.additionals.length cd]] st_54 rfl rfl rfl rfl rfl)) rfl rfl (dL 14 rfl (dR 3 hs k_54 rfl rfl rfl rfl rfl (aG rfl) rfl (fun w hs => ⟨fun h => absurd h (by decide +kernel), bS (by decide +kernel) (aV ⟨_, res1 ⟨_, rfl, aP k_54 (hs.g 3 rfl) rfl⟩, ⟨V4, bq, cq, ba, ca, bu, cu, bd, cd, xsA ++ spA, xsU ++ spU, xsD ++ spD, rfl, fun i hi j u hu => ?_, ((Sec.of hrA hm.ans).mono hleU).mono hleD, (Sec.of hrU hm.aut).mono hleD, Sec.of hrD hm.add, hba', hbu', hbd', ?_⟩⟩)⟩)))⟩
 obtain ⟨c, rfl, hcl, hct⟩ := hrows.at (List.getElem?_eq_getElem hi)
 have h1 := cell_at hct hu
 have h2 : i * 258 + j < ys.length := by
  rcases Nat.lt_or_ge (i * 258 + j) ys.length with h | h
  exact h
  rw [List.getElem?_eq_none h] at h1; cases h1
 refine Vw.cell_le (Vw.le_trans hleA (Vw.le_trans hleU hleD)) (Vw.cell_of hvq ?_)
 rw [List.getElem?_append_left h2]; exact h1
 exact (hs.perm (M := (b2, _) :: (b1, _) :: [_, _, _]) (perm5 ..)).drop hb2 |>.drop hb1
end
end Go.Proofs.YtgpfjlfkaoffeaaGreatDoor

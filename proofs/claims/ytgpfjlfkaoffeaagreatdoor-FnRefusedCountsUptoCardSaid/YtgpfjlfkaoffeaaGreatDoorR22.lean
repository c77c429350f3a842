/- A message read as a whole. Packing: what the thin package converts. Packing: what the thin package converts, of one piece. Packing: bodies converted, of one piece. -/
import Derived.Test.YtgpfjlfkaoffeaaGreatDoorR21
import Derived.Test.YtgpfjlfkaoffeaaGreatDoorR18
import Derived.Test.YtgpfjlfkaoffeaaGreatDoorR10
set_option linter.all false
namespace Go.Proofs.YtgpfjlfkaoffeaaGreatDoor
open Go
theorem RQs.mono {V V' : Vw} {v : Value} {l : List PAsk} (hV : V.le V') (h : RQs V v l) : RQs V' v l := by
 obtain ⟨xs, h1, h2⟩ := h
 exact ⟨xs, h1.mono hV, h2⟩
theorem RRess.mono {V V' : Vw} {v : Value} {l : List fY} (hV : V.le V') (h : RRess V v l) : RRess V' v l := by
 obtain ⟨xs, h1, h2⟩ := h
 exact ⟨xs, h1.mono hV, h2.mono fun _ _ h => h.mono hV⟩
theorem RRess.oneCell {V : Vw} {v : Value} {l : List fY} (h : RRess V v l) : v.oneCell' = true := by
 obtain ⟨xs, h1, _⟩ := h; exact h1.oneCell
def RMsg (V : Vw) (x : PMsg) (c : List Value) : Prop := ∃ va v1 v2 v3, c = headC x.id x.bits ++ [va, v1, v2, v3] ∧ RAsks V va x.asks ∧ RRecs V v1 x.answers ∧ RRecs V v2 x.authorities ∧ RRecs V v3 x.additionals
theorem RMsg.mono {V V' : Vw} {x : PMsg} {c : List Value} (hV : V.le V') (h : RMsg V x c) : RMsg V' x c := by
 obtain ⟨va, v1, v2, v3, h0, h1, h2, h3, h4⟩ := h
 exact ⟨va, v1, v2, v3, h0, h1.mono hV, h2.mono hV, h3.mono hV, h4.mono hV⟩
theorem RMsg.flat {V : Vw} {x : PMsg} {c : List Value} (h : RMsg V x c) : Flat c ∧ c.length = 14 := by
 obtain ⟨va, v1, v2, v3, rfl, h1, h2, h3, h4⟩ := h
 exact ⟨fD (flat_headC _ _) (bX h1.oneCell (bX h2.oneCell (bX h3.oneCell (bX h4.oneCell eQ)))), rfl⟩
theorem RMsg.nil (V : Vw) : RMsg V {} (headC 0 0 ++ [.slice none 0 0, .slice none 0 0, .slice none 0 0, .slice none 0 0]) := ⟨_, _, _, _, rfl, RAsks.nil V, RRecs.nil V, RRecs.nil V, RRecs.nil V⟩
section
variable {l : List UInt8} {k : EK} {al : List PAsk} {r1 r2 r3 : List fY} {m1 m2 m3 m4 : PM}
theorem unpack_0 (h : l.length < 12) : unpackM l = none := by rw [unpackM_eq]; unfold unpackN; rw [if_pos h]
theorem unpack_1 (h0 : 12 ≤ l.length) (h1 : fQ l fuel { sec := 1, at_ := 12 } [] = (k, al, m1)) (hk : k ≠ .ok) : unpackM l = none := by
 rw [unpackM_eq]; unfold unpackN; rw [if_neg (by omega), h1]
 cases k <;> first | rfl | exact absurd rfl hk
theorem unpack_2 (h0 : 12 ≤ l.length) (h1 : fQ l fuel { sec := 1, at_ := 12 } [] = (.ok, al, m1)) (h2 : eR l 2 fuel m1 [] = (k, r1, m2)) (hk : k ≠ .ok) : unpackM l = none := by
 rw [unpackM_eq]; unfold unpackN; rw [if_neg (by omega), h1]; simp only [h2]
 cases k <;> first | rfl | exact absurd rfl hk
theorem unpack_3 (h0 : 12 ≤ l.length) (h1 : fQ l fuel { sec := 1, at_ := 12 } [] = (.ok, al, m1)) (h2 : eR l 2 fuel m1 [] = (.ok, r1, m2)) (h3 : eR l 3 fuel m2 [] = (k, r2, m3)) (hk : k ≠ .ok) : unpackM l = none := by
 rw [unpackM_eq]; unfold unpackN; rw [if_neg (by omega), h1]; simp only [h2, h3]
 cases k <;> first | rfl | exact absurd rfl hk
theorem unpack_4 (h0 : 12 ≤ l.length) (h1 : fQ l fuel { sec := 1, at_ := 12 } [] = (.ok, al, m1)) (h2 : eR l 2 fuel m1 [] = (.ok, r1, m2)) (h3 : eR l 3 fuel m2 [] = (.ok, r2, m3)) (h4 : eR l 4 fuel m3 [] = (k, r3, m4)) (hk : k ≠ .ok) :
  unpackM l = none := by
 rw [unpackM_eq]; unfold unpackN; rw [if_neg (by omega), h1]; simp only [h2, h3, h4]
 cases k <;> first | rfl | exact absurd rfl hk
theorem unpack_5 (h0 : 12 ≤ l.length) (h1 : fQ l fuel { sec := 1, at_ := 12 } [] = (.ok, al, m1)) (h2 : eR l 2 fuel m1 [] = (.ok, r1, m2)) (h3 : eR l 3 fuel m2 [] = (.ok, r2, m3)) (h4 : eR l 4 fuel m3 [] = (.ok, r3, m4)) :
  unpackM l = some { id := w16 l 0, bits := w16 l 2, asks := al, answers := r1, authorities := r2, additionals := r3 } := by
 rw [unpackM_eq]; unfold unpackN; rw [if_neg (by omega), h1]; simp only [h2, h3, h4]
theorem asks_few (h : fQ l fuel m1 [] = (k, al, m2)) : al.length ≤ 70000 := by
 have := allAsks_len h; have h0 : fuel = 65537 := rfl; simp at this; omega
theorem recs_few {s : Nat} (h : eR l s fuel m1 [] = (k, r1, m2)) : r1.length ≤ 70000 := by
 have := allRecs_len h; have h0 : fuel = 65537 := rfl; simp at this; omega
end
section
variable {A : Nat → Addr} {V : Vw} {w0 : World} {l : List UInt8} {mv : Value} {bm : Nat} {E : TypeId}
def RMsgD (V : Vw) (x : PMsg) (c : List Value) : Prop := ∃ q a u d, c = headC x.id x.bits ++ [q, a, u, d] ∧ RQs V q x.asks ∧ RRess V a x.answers ∧ RRess V u x.authorities ∧ RRess V d x.additionals ∧ x.asks.length ≤ 70000 ∧ x.answers.length ≤ 70000 ∧ x.authorities.length ≤ 70000 ∧ x.additionals.length ≤ 70000
def msgZ : List Value := headC 0 0 ++ [.slice none 0 0, .slice none 0 0, .slice none 0 0, .slice none 0 0]
set_option maxHeartbeats 2000000 in
theorem c_msgUnpack (hG : Gl A V) (hV : V.In w0) (hb : RB V mv l) (hown : w0.heap[bm]? = some (.cells msgZ.toArray E (0, 0))) (hvn : V bm = none) (h2l : l.length ≤ 4294967296) :
  eC Tryz.prog 17 #[.pointer (some ⟨bm, 0, none⟩), mv] w0 fun v w' => ∃ (V' : Vw) (mcs : List Value) (k : EK), ErrV A v k ∧ St ⟨w0, V, V'⟩ w' [(bm, .cells mcs.toArray E (0, 0))] ∧
   ((k = .ok ∧ ∃ x, unpackM l = some x ∧ RMsgD V' x mcs) ∨ (k ≠ .ok ∧ unpackM l = none)) := by
 have hs := St.start1 hV hown (bU _ _) hvn
 refine aT [_, _] Tryz.func17 Tryz.ntmps17 Tryz.results17 rfl rfl (dP (dN rfl rfl (aH (dP (aJ (aX hs z_100 rfl (fun b5 w hb5 he5 hs => aH (dP (dN rfl rfl (aH (aF (dP (dM rfl rfl (dM rfl rfl ?_))))))))))))))
 refine aZ ok_35 rfl rfl (c_start hG hs.isIn hb (hs.g 0 rfl) (hs.off (k := 0) rfl) (PR.zero l mv) (wf_init l) h2l) rfl (fun v10 w HF => ?_)
 obtain ⟨cs', hcs, e, k, m', rfl, hc, hp, he, hhl, hhf, hr⟩ := HF
 replace hs := hs.frame1 (k := 0) rfl rfl hc
 refine dM rfl rfl (dO rfl rfl rfl (dO rfl rfl rfl (lp (aN rfl) rfl (lp (aR fo_54_0 rfl) rfl (aJ (o_storeA (k := 1) (p := 0) hs k_50 rfl rfl rfl hhl (by decide) hhf rfl (fun w hs => dN rfl rfl (aH (dP (dM rfl rfl (lp (bB he rfl) rfl (aH (bH rfl (fun hc0 => ?_) (fun hc0 => ?_))))))))))))))
 refine dP (dM rfl rfl (dN rfl rfl (aH (aV ⟨_, fW rfl, ?_⟩))))
 have hno : l.length < 12 := by
  rcases hr with ⟨_, h, _⟩ | ⟨h, _⟩
  exact absurd h hc0
  exact h
 exact ⟨V, _, k, he, hs.drop hb5, .inr ⟨hc0, unpack_0 hno⟩⟩
 refine aW (aF (aF ?_))
 have hk : k = .ok := by simpa using hc0
 subst hk
 obtain ⟨h12, rfl, rfl⟩ : 12 ≤ l.length ∧ m' = { sec := 1, at_ := 12 } ∧ hcs = headC (w16 l 0) (w16 l 2) := by
  rcases hr with ⟨h1, _, h2, h3⟩ | ⟨_, h, _⟩
  exact ⟨h1, h2, h3⟩
  cases h
 replace hs : St ⟨w0, V, V⟩ _ [(b5, .cells cs'.toArray 100 (0, 0)), (bm, .cells (headC (w16 l 0) (w16 l 2) ++ [Value.slice none 0 0, .slice none 0 0, .slice none 0 0, .slice none 0 0]).toArray E (0, 0))] := hs
 refine aB (dM rfl rfl (aZ ok_42 rfl rfl (c_allQuestions hG hs.isIn hb (hs.g 0 rfl) (hs.off (k := 0) rfl) hp (wf_start h12) h2l) rfl (fun v20 w HF => ?_)))
 obtain ⟨V1, cs', qv, e, k, al, m1, rfl, hc, hm1, hp, hwf, he, hq1, hq⟩ := HF
 replace hs := hs.frame1 (k := 0) rfl rfl hc
 refine dM rfl rfl (dO rfl rfl rfl (dO rfl rfl rfl (lp (aN rfl) rfl (lp (aR fo_54_1 rfl) rfl (aJ (dQ 1 hs k_51 rfl rfl rfl hq1 rfl rfl rfl (fun w hs => dN rfl rfl (aH (dP (dM rfl rfl (lp (bB he rfl) rfl (aH (bH rfl (fun hc1 => ?_) (fun hc1 => ?_))))))))))))))
 refine dP (dM rfl rfl (dN rfl rfl (aH (aV ⟨_, fW rfl, ?_⟩))))
 exact ⟨V1, _, k, he, hs.drop hb5, .inr ⟨hc1, unpack_1 h12 hm1 hc1⟩⟩
 refine aW (aF (aF ?_))
 have hk : k = .ok := by simpa using hc1
 subst hk
 replace hs : St ⟨w0, V, V1⟩ _ [(b5, .cells cs'.toArray 100 (0, 0)), (bm, .cells (headC (w16 l 0) (w16 l 2) ++ [qv, .slice none 0 0, .slice none 0 0, .slice none 0 0]).toArray E (0, 0))] := hs
 refine aB (dM rfl rfl (aZ ok_43 rfl rfl (c_allAnswers (hG.mono hs.view) hs.isIn (hb.mono hs.view) (hs.g 0 rfl) (hs.off (k := 0) rfl) hp hwf h2l) rfl (fun v30 w HF => ?_)))
 obtain ⟨V2, cs', av, e, k, r1, m2, rfl, hc, hm2, hp, hwf, he, ha1, ha⟩ := HF
 have hle2 := hc.view
 replace hs := hs.frame1 (k := 0) rfl rfl hc
 refine dM rfl rfl (dO rfl rfl rfl (dO rfl rfl rfl (lp (aN rfl) rfl (lp (aR fo_54_2 rfl) rfl (aJ (dQ 1 hs k_52 rfl rfl rfl ha1 rfl rfl rfl (fun w hs => dN rfl rfl (aH (dP (dM rfl rfl (lp (bB he rfl) rfl (aH (bH rfl (fun hc2 => ?_) (fun hc2 => ?_))))))))))))))
 refine dP (dM rfl rfl (dN rfl rfl (aH (aV ⟨_, fW rfl, ?_⟩))))
 exact ⟨V2, _, k, he, hs.drop hb5, .inr ⟨hc2, unpack_2 h12 hm1 hm2 hc2⟩⟩
 refine aW (aF (aF ?_))
 have hk : k = .ok := by simpa using hc2
 subst hk
 replace hs : St ⟨w0, V, V2⟩ _ [(b5, .cells cs'.toArray 100 (0, 0)), (bm, .cells (headC (w16 l 0) (w16 l 2) ++ [qv, av, .slice none 0 0, .slice none 0 0]).toArray E (0, 0))] := hs
 refine aB (dM rfl rfl (aZ ok_44 rfl rfl (c_allAuthorities (hG.mono hs.view) hs.isIn (hb.mono hs.view) (hs.g 0 rfl) (hs.off (k := 0) rfl) hp hwf h2l) rfl (fun v40 w HF => ?_)))
 obtain ⟨V3, cs', uv, e, k, r2, m3, rfl, hc, hm3, hp, hwf, he, hu1, hu⟩ := HF
 have hle3 := hc.view
 replace hs := hs.frame1 (k := 0) rfl rfl hc
 refine dM rfl rfl (dO rfl rfl rfl (dO rfl rfl rfl (lp (aN rfl) rfl (lp (aR cI rfl) rfl (aJ (dQ 1 hs k_52 rfl rfl rfl hu1 rfl rfl rfl (fun w hs => dN rfl rfl (aH (dP (dM rfl rfl (lp (bB he rfl) rfl (aH (bH rfl (fun hc3 => ?_) (fun hc3 => ?_))))))))))))))
 refine dP (dM rfl rfl (dN rfl rfl (aH (aV ⟨_, fW rfl, ?_⟩))))
 exact ⟨V3, _, k, he, hs.drop hb5, .inr ⟨hc3, unpack_3 h12 hm1 hm2 hm3 hc3⟩⟩
 refine aW (aF (aF ?_))
 have hk : k = .ok := by simpa using hc3
 subst hk
 replace hs : St ⟨w0, V, V3⟩ _ [(b5, .cells cs'.toArray 100 (0, 0)), (bm, .cells (headC (w16 l 0) (w16 l 2) ++ [qv, av, uv, .slice none 0 0]).toArray E (0, 0))] := hs
 refine aB (dM rfl rfl (aZ ok_45 rfl rfl (c_allAdditionals (hG.mono hs.view) hs.isIn (hb.mono hs.view) (hs.g 0 rfl) (hs.off (k := 0) rfl) hp hwf h2l) rfl (fun v50 w HF => ?_)))
 obtain ⟨V4, cs', dv, e, k, r3, m4, rfl, hc, hm4, hp, hwf, he, hd1, hd⟩ := HF
 have hle4 := hc.view
 replace hs := hs.frame1 (k := 0) rfl rfl hc
 refine dM rfl rfl (dO rfl rfl rfl (dO rfl rfl rfl (lp (aN rfl) rfl (lp (aR cL rfl) rfl (aJ (dQ 1 hs k_52 rfl rfl rfl hd1 rfl rfl rfl (fun w hs => dN rfl rfl (aH (dP (dM rfl rfl (lp (bB he rfl) rfl (aH (bH rfl (fun hc4 => ?_) (fun hc4 => ?_))))))))))))))
 refine dP (dM rfl rfl (dN rfl rfl (aH (aV ⟨_, fW rfl, ?_⟩))))
 exact ⟨V4, _, k, he, hs.drop hb5, .inr ⟨hc4, unpack_4 h12 hm1 hm2 hm3 hm4 hc4⟩⟩
 refine aW (aF ?_)
 have hk : k = .ok := by simpa using hc4
 subst hk
 replace hs : St ⟨w0, V, V4⟩ _ [(b5, .cells cs'.toArray 100 (0, 0)), (bm, .cells (headC (w16 l 0) (w16 l 2) ++ [qv, av, uv, dv]).toArray E (0, 0))] := hs
 refine aB (dN rfl rfl (aH (aV ⟨_, fW rfl, ?_⟩)))
 exact ⟨V4, _, .ok, rfl, hs.drop hb5, .inl ⟨rfl, _, unpack_5 h12 hm1 hm2 hm3 hm4, qv, av, uv, dv, rfl, RQs.mono (h := hq rfl) (Vw.le_trans hle2 (Vw.le_trans hle3 hle4)), RRess.mono (h := ha rfl) (Vw.le_trans hle3 hle4), RRess.mono (h := hu rfl) hle4, hd rfl, asks_few hm1, recs_few hm2, recs_few hm3, recs_few hm4⟩⟩
set_option maxHeartbeats 2000000 in
theorem c_unpack (hG : Gl A V) (hV : V.In w0) (hb : RB V mv l) (h2l : l.length ≤ 4294967296) :
  eC Tryz.prog 8 #[mv] w0 fun v w' => ∃ (V' : Vw) (mcs : List Value) (ok : Bool) (x : PMsg), v = .tuple #[.agg mcs.toArray, .bool ok] ∧ St ⟨w0, V, V'⟩ w' [] ∧ RMsg V' x mcs ∧ ((ok = true ∧ unpackM l = some x) ∨ (ok = false ∧ unpackM l = none ∧ x = {})) := by
 have hs := St.start hV
 refine aT [_] Tryz.func8 Tryz.ntmps8 Tryz.results8 rfl rfl (dP (aJ (aX hs z_36 rfl (fun b2 w hb2 he2 hs => dN rfl rfl (aH (dP (lp (bM (vs := []) (ps := []) rfl bz_54) rfl (aJ (aX hs z_54 rfl (fun b4 w hb4 he4 hs => aJ (dR 0 hs k_54 rfl rfl rfl (by simp) (by simp) (aG (by decide +kernel)) rfl (fun w hs => aH (aF (dP (dM rfl rfl (aZ ok_17 rfl rfl (c_msgUnpack hG hs.isIn hb (hs.g 0 rfl) (hs.off (k := 0) rfl) h2l) rfl (fun v8 w HF => ?_)))))))))))))))))
 obtain ⟨V1, mcs, k, he, hc, hr⟩ := HF
 replace hs := hs.frame1 (k := 0) rfl rfl hc
 refine dN rfl rfl (aH (dP (dM rfl rfl (lp (bB he rfl) rfl (aH (bH rfl (fun hc0 => ?_) (fun hc0 => ?_)))))))
 refine dP (lp (bM (vs := []) (ps := []) rfl bz_36) rfl (aJ (dR 1 hs k_36 rfl rfl rfl (by simp) (by simp) (aG (by decide +kernel)) rfl (fun w hs => dN rfl rfl (aH (aV ⟨_, fX ⟨_, rfl, aP k_36 (hs.g 1 rfl) rfl⟩ rfl, ?_⟩))))))
 have hno : unpackM l = none := by
  rcases hr with ⟨h, _⟩ | ⟨_, h⟩
  exact absurd h hc0
  exact h
 exact ⟨V1, _, false, {}, rfl, (hs.drop hb4).drop hb2, RMsg.nil V1, .inr ⟨rfl, hno, rfl⟩⟩
 refine aW (aF ?_)
 have hk : k = .ok := by simpa using hc0
 subst hk
 obtain ⟨x, hx, q, a, u, d, rfl, hq, ha, hu, hd, n1, n2, n3, n4⟩ : ∃ x, unpackM l = some x ∧ RMsgD V1 x mcs := by
  rcases hr with ⟨_, h⟩ | ⟨h, _⟩
  exact h
  exact absurd rfl h
 refine e_draw (fun w2 => w2.heap[b4]? = some (.cells (headC x.id x.bits ++ [q, a, u, d]).toArray 54 (0, 0))) [1, 4, 7, 10, 13] mixed (fun w hw => ?_)
 replace hs := hw.st hs
 refine dI 0 rfl (fun w => aR fo_54_0 rfl) rfl rfl (dJ 1 rfl (hs.g 0 rfl) rfl (fun w hf => (aO rfl (ld_hd (a := headC x.id x.bits) k_50 hf rfl))) rfl (dI 3 rfl (fun w => aR fo_54_1 rfl) rfl rfl (dJ 4 rfl (hs.g 0 rfl) rfl (fun w hf => (aO rfl (cT (a := headC x.id x.bits) k_51 hf rfl (i := 0) rfl rfl))) rfl (dI 6 rfl (fun w => aR fo_54_2 rfl) rfl rfl (dJ 7 rfl (hs.g 0 rfl) rfl (fun w hf => (aO rfl (cT (a := headC x.id x.bits) k_52 hf rfl (i := 1) rfl rfl))) rfl (dI 9 rfl (fun w => aR cI rfl) rfl rfl (dJ 10 rfl (hs.g 0 rfl) rfl (fun w hf => (aO rfl (cT (a := headC x.id x.bits) k_52 hf rfl (i := 2) rfl rfl))) rfl (dI 12 rfl (fun w => aR cL rfl) rfl rfl (dJ 13 rfl (hs.g 0 rfl) rfl (fun w hf => (aO rfl (cT (a := headC x.id x.bits) k_52 hf rfl (i := 3) rfl rfl))) rfl (dL 2 rfl (cF (cD rfl rfl ok_18 (c_headOf hs.isIn x.id x.bits)) rfl (fun v14 w HF => ?_))))))))))))
 obtain ⟨rfl, hc⟩ := HF
 replace hs := hs.frame hc
 refine ⟨fun _ => hs.g 0 rfl, dL 5 rfl (cF (cD rfl rfl ok_19 (c_asksOf hs.isIn hq n1)) rfl (fun v17 w HF => ?_))⟩
 obtain ⟨V2, hc, hRA⟩ := HF
 replace hs := hs.frame hc
 have le2 := hc.view
 refine ⟨fun _ => hs.g 0 rfl, dL 8 rfl (cF (cD rfl rfl ok_20 (c_recordsOf hs.isIn (ha.mono le2) n2)) rfl (fun v20 w HF => ?_))⟩
 obtain ⟨V3, hc, hR1⟩ := HF
 replace hs := hs.frame hc
 have le3 := hc.view
 refine ⟨fun _ => hs.g 0 rfl, dL 11 rfl (cF (cD rfl rfl ok_20 (c_recordsOf hs.isIn (hu.mono (Vw.le_trans le2 le3)) n3)) rfl (fun v23 w HF => ?_))⟩
 obtain ⟨V4, hc, hR2⟩ := HF
 replace hs := hs.frame hc
 have le4 := hc.view
 refine ⟨fun _ => hs.g 0 rfl, dL 14 rfl (cF (cD rfl rfl ok_20 (c_recordsOf hs.isIn (hd.mono (Vw.le_trans le2 (Vw.le_trans le3 le4))) n4)) rfl (fun v26 w HF => ?_))⟩
 obtain ⟨V5, hc, hR3⟩ := HF
 replace hs := hs.frame hc
 have le5 := hc.view
 have hRM : RMsg V5 x (headC x.id x.bits ++ [v17, v20, v23, v26]) := ⟨_, _, _, _, rfl, hRA.mono (Vw.le_trans le3 (Vw.le_trans le4 le5)), hR1.mono (Vw.le_trans le4 le5), hR2.mono le5, hR3⟩
 refine ⟨fun _ => hs.g 0 rfl, dI 15 rfl (fun w => (fO [headC x.id x.bits, [v17], [v20], [v23], [v26]] st_36 rfl rfl (by simp only [List.map_cons, List.map_nil, cells_one hRA.oneCell, cells_one hR1.oneCell, cells_one hR2.oneCell, cells_one hR3.oneCell]; rfl) rfl rfl)) rfl rfl (dL 16 rfl (dR 1 hs k_36 rfl rfl rfl hRM.flat.2 rfl hRM.flat.1 rfl (fun w hs => ⟨fun h => absurd h (by decide +kernel), dI 17 rfl (fun w => aD rfl) rfl rfl (bS (by decide +kernel) (aV ⟨_, fX ⟨_, rfl, aP k_36 (hs.g 1 rfl) hRM.flat.2⟩ rfl, ?_⟩))⟩)))⟩
 exact ⟨V5, _, true, x, rfl, (hs.drop hb4).drop hb2, hRM, .inl ⟨rfl, hx⟩⟩
end
end Go.Proofs.YtgpfjlfkaoffeaaGreatDoor
namespace Go.Proofs.YtgpfjlfkaoffeaaGreatDoor
open Go
theorem fitP_take (s : List UInt8) : s.take (eN s).length = eN s := by
 unfold eN
 rw [List.length_take]
 rcases Nat.le_total 255 s.length with h | h
 rw [Nat.min_eq_left h]
 rw [Nat.min_eq_right h, List.take_length, List.take_of_length_le h]
section
variable {A : Nat → Addr} {V : Vw} {w0 : World}
set_option maxHeartbeats 2000000 in
theorem c_nameOf (hV : V.In w0) (s : List UInt8) (hsz : s.length ≤ 4294967296) : eC Tryz.prog 59 #[fR s] w0 fun v w' => v = .agg (nmC (eN s) (eN s).length).toArray ∧ St ⟨w0, V, V⟩ w' [] := by
 have h255 := eL s
 have hs := St.start hV
 refine aT [_] Tryz.func59 Tryz.ntmps59 Tryz.results59 rfl rfl (dP (aJ (aX hs z_86 rfl (fun b2 w hb2 he2 hs => ?_))))
 rw [rep256] at hs
 refine aH (dP (lp (bM (vs := []) (ps := []) rfl bz_86) rfl (aJ (aX hs z_86 rfl (fun b3 w hb3 he3 hs => ?_)))))
 rw [rep256] at hs
 refine aJ (dR 0 hs k_86 rfl rfl rfl (by simp) (cM (by simp)) (flat_rep' 256 rfl) rfl (fun w hs => ?_))
 rw [rep256] at hs
 refine aH (dP (lp (aR fo_86_0 rfl) rfl (lp (po_slice_arrA ar_84 (by decide) rfl) rfl (dM rfl rfl (aJ (o_copy (kk := 0) (k := (eN s).length) (sl := s.length) (news := (eN s).map eA) es_23 hs rfl rfl (by simp [Builtin.lenOf, fR, ofBytes_size]) (by unfold eN; rw [List.length_take]; exact Nat.min_comm _ _) (by have q := fst_string (P := Tryz.prog) (w := w) (s := fB s) (k := (eN s).length) (by rw [ofBytes_size]; unfold eN; rw [List.length_take]; exact Nat.min_le_right _ _); have e : (fB s).data.toList.take (eN s).length = eN s := fitP_take s; rw [e] at q; exact q) (dH _) rfl (by rw [cM (by simp)]; omega) rfl rfl (fun w hs => ?_)))))))
 have happ := nmC_app (pre := []) (post := []) (out := []) (news := eN s) (n := 0) (np := 0) rfl (by simp; omega)
 simp only [List.nil_append, List.append_nil, List.length_nil, Nat.add_zero, Nat.zero_add, Nat.mul_one] at happ hs
 rw [happ] at hs
 refine lp (bY Tryz.underlying3 Tryz.underlying5 rfl (u8c (c := (eN s).length) rfl (by omega))) rfl (lp (aR fo_86_1 rfl) rfl (aJ (dQ 0 hs k_5 rfl rfl rfl rfl rfl (lset_of _ (by rw [cM (by omega)]; decide)) rfl (fun w hs => ?_))))
 have hset := nmC_set (pre := []) (post := []) (out := eN s) (n := 0) (m := (eN s).length) (np := 0) rfl h255
 simp only [List.nil_append, List.append_nil, Nat.zero_add] at hset
 rw [hset] at hs
 refine aH (dP (lp (aO rfl (aP k_86 (hs.g 0 rfl) (cM h255))) rfl (aJ (dR 1 hs k_86 rfl rfl rfl (cM h255) (cM (by simp)) (eU _ _) rfl (fun w hs => aH (aV ⟨_, fW ⟨_, rfl, aP k_86 (hs.g 1 rfl) (cM h255)⟩, ?_⟩))))))
 exact ⟨rfl, (hs.drop hb3).drop hb2⟩
end
end Go.Proofs.YtgpfjlfkaoffeaaGreatDoor
namespace Go.Proofs.YtgpfjlfkaoffeaaGreatDoor
open Go
section
variable {A : Nat → Addr} {V : Vw} {w0 : World} {r : fY} {vd vt vp : Value}
theorem p_headerOf (hV : V.In w0) (h : PHead) : eC Tryz.prog 32 #[.agg (fJ h).toArray] w0 fun v w' => v = .agg (fJ h).toArray ∧ St ⟨w0, V, V⟩ w' [] := by
 have hs := St.start hV
 refine aT [_] Tryz.func32 Tryz.ntmps32 Tryz.results32 rfl rfl (dP (aJ (cR hs rfl rfl rfl (fun b1 w hb1 hbe1 hs => aJ (aX hs z_50 rfl (fun b2 w hb2 he2 hs => aH (dP (lp (aR cV rfl) rfl (lp (aO rfl (aQ eS (hs.g 1 rfl) rfl)) rfl (lp (aR fo_33_1 rfl) rfl (lp (aO rfl (aQ k_4 (hs.g 1 rfl) rfl)) rfl (lp (aR fo_33_2 rfl) rfl (lp (aO rfl (aQ eS (hs.g 1 rfl) rfl)) rfl (lp (aR fo_33_3 rfl) rfl (lp (aO rfl (aQ k_4 (hs.g 1 rfl) rfl)) rfl ?_)))))))))))))))
 refine lp (aR fo_33_4 rfl) rfl (lp (aO rfl (aQ k_4 (hs.g 1 rfl) rfl)) rfl (lp (aR fo_33_5 rfl) rfl (lp (aO rfl (aQ k_4 (hs.g 1 rfl) rfl)) rfl (lp (aR fo_33_6 rfl) rfl (lp (aO rfl (aQ k_4 (hs.g 1 rfl) rfl)) rfl (lp (aR fo_33_7 rfl) rfl (lp (aO rfl (aQ k_4 (hs.g 1 rfl) rfl)) rfl (lp (aR fo_33_8 rfl) rfl (lp (aO rfl (aQ k_4 (hs.g 1 rfl) rfl)) rfl (lp (aR fo_33_9 rfl) rfl (lp (aO rfl (aQ eS (hs.g 1 rfl) rfl)) rfl (lp (bL rfl (by rfl) (bu_50_0_1_2_3_4_5_6_7_8_9 _ _ _ _ _ _ _ _ _ _)) rfl (aJ (dR 0 hs k_50 rfl rfl rfl (by simp) (by simp) (aG rfl) rfl (fun w hs => ?_)))))))))))))))
 refine aH (aV ⟨_, fW ⟨_, rfl, aP k_50 (hs.g 0 rfl) rfl⟩, ?_⟩)
 exact ⟨rfl, (hs.drop hb2).drop hb1⟩
def askV (a : PAsk) : List Value := nmC (eN a.name) (eN a.name).length ++ [.int .u16 a.type, .int .u16 a.cls]
set_option maxHeartbeats 1000000 in
theorem p_questionOf (hV : V.In w0) (a : PAsk) (hsz : a.name.length ≤ 4294967296) : eC Tryz.prog 31 #[.agg (askC a).toArray] w0 fun v w' => v = .agg (askV a).toArray ∧ St ⟨w0, V, V⟩ w' [] := by
 have hn := cM (n := (eN a.name).length) (eL a.name)
 have hs := St.start hV
 refine aT [_] Tryz.func31 Tryz.ntmps31 Tryz.results31 rfl rfl (dP (aJ (cR hs rfl rfl rfl (fun b1 w hb1 hbe1 hs => aJ (aX hs z_90 rfl (fun b2 w hb2 he2 hs => aH (aF (bV hs [1, 4, 6] mixed (fun w hs => dI 0 rfl (fun w => aR fo_77_0 rfl) rfl rfl (dJ 1 rfl hs rfl (fun w hs => (aO rfl (aQ k_9 (hs.g 1 rfl) rfl))) rfl (dI 3 rfl (fun w => aR fo_77_1 rfl) rfl rfl (dJ 4 rfl hs rfl (fun w hs => (aO rfl (aQ eS (hs.g 1 rfl) rfl))) rfl (dI 5 rfl (fun w => aR fo_77_2 rfl) rfl rfl (dJ 6 rfl hs rfl (fun w hs => (aO rfl (aQ eS (hs.g 1 rfl) rfl))) rfl (dL 2 rfl (cF (cD rfl rfl ok_59 (c_nameOf hs.isIn a.name hsz)) rfl (fun v5 w HF => ?_)))))))))))))))))
 obtain ⟨rfl, hc⟩ := HF
 replace hs := hs.frame hc
 refine ⟨fun _ => hs, dI 7 rfl (fun w => (fO [nmC (eN a.name) (eN a.name).length, [.int .u16 a.type], [.int .u16 a.cls]] st_90 rfl rfl rfl (by simp [hn]) (show _ = askV a by simp [askV]))) rfl rfl (dL 8 rfl (dR 0 hs k_90 rfl rfl rfl (by simp [askV, hn]) (by simp) (fD (eU _ _) (aG rfl)) rfl (fun w hs => ⟨fun h => absurd h (by decide +kernel), bS (by decide +kernel) (aV ⟨_, fW ⟨_, rfl, aP k_90 (hs.g 0 rfl) (by simp [askV, hn])⟩, ?_⟩)⟩)))⟩
 exact ⟨rfl, (hs.drop hb2).drop hb1⟩
set_option maxHeartbeats 1000000 in
theorem p_resourceHeaderOf (hV : V.In w0) (hsz : r.name.length ≤ 4294967296) : eC Tryz.prog 60 #[.agg (eY r vd vt vp).toArray] w0 fun v w' => v = .agg (rhdC (eN r.name) r.type r.cls r.ttl r.length).toArray ∧ St ⟨w0, V, V⟩ w' [] := by
 have hn := cM (n := (eN r.name).length) (eL r.name)
 have hs := St.start hV
 refine aT [_] Tryz.func60 Tryz.ntmps60 Tryz.results60 rfl rfl (dP (aJ (cR hs rfl rfl rfl (fun b1 w hb1 hbe1 hs => aJ (aX hs z_112 rfl (fun b2 w hb2 he2 hs => aH (aF (bV hs [1, 4, 6, 8, 10] mixed (fun w hs => dI 0 rfl (fun w => aR fo_30_0 rfl) rfl rfl (dJ 1 rfl hs rfl (fun w hs => (aO rfl (aQ k_9 (hs.g 1 rfl) rfl))) rfl (dI 3 rfl (fun w => aR fo_30_1 rfl) rfl rfl (dJ 4 rfl hs rfl (fun w hs => (aO rfl (aQ eS (hs.g 1 rfl) rfl))) rfl (dI 5 rfl (fun w => aR fo_30_2 rfl) rfl rfl (dJ 6 rfl hs rfl (fun w hs => (aO rfl (aQ eS (hs.g 1 rfl) rfl))) rfl (dI 7 rfl (fun w => aR fo_30_3 rfl) rfl rfl ?_)))))))))))))))
 refine dJ 8 rfl hs rfl (fun w hs => (aO rfl (aQ cB (hs.g 1 rfl) rfl))) rfl (dI 9 rfl (fun w => aR fo_30_4 rfl) rfl rfl (dJ 10 rfl hs rfl (fun w hs => (aO rfl (aQ eS (hs.g 1 rfl) rfl))) rfl (dL 2 rfl (cF (cD rfl rfl ok_59 (c_nameOf hs.isIn r.name hsz)) rfl (fun v5 w HF => ?_)))))
 obtain ⟨rfl, hc⟩ := HF
 replace hs := hs.frame hc
 refine ⟨fun _ => hs, dI 11 rfl (fun w => (fO [nmC (eN r.name) (eN r.name).length, [.int .u16 r.type], [.int .u16 r.cls], [.int .u32 r.ttl], [.int .u16 r.length]] st_112 rfl rfl rfl (by simp [hn]) (show _ = rhdC (eN r.name) r.type r.cls r.ttl r.length by simp [rhdC]))) rfl rfl (dL 12 rfl (dR 0 hs k_112 rfl rfl rfl (by simp [rhdC, hn]) (by simp) (fD (eU _ _) (aG rfl)) rfl (fun w hs => ⟨fun h => absurd h (by decide +kernel), bS (by decide +kernel) (aV ⟨_, fW ⟨_, rfl, aP k_112 (hs.g 0 rfl) (by simp [rhdC, hn])⟩, ?_⟩)⟩)))⟩
 exact ⟨rfl, (hs.drop hb2).drop hb1⟩
end
end Go.Proofs.YtgpfjlfkaoffeaaGreatDoor
namespace Go.Proofs.YtgpfjlfkaoffeaaGreatDoor
open Go
theorem u16mod {n : Nat} : IntKind.u16.wrap ((n : Nat) : Int) = ((n % 65536 : Nat) : Int) := by
 have h1 : IntKind.u16.wrap (n : Int) = (n : Int) % 65536 := by simp [IntKind.wrap, IntKind.signed, IntKind.bits]
 rw [h1]; omega
theorem padTo_cells (d : List UInt8) (n : Nat) : (rep n (Value.int .u8 0)).take 0 ++ (d.take (Nat.min d.length n)).map eA ++ (rep n (Value.int .u8 0)).drop (0 + Nat.min d.length n * 1) = (padTo d n).map eA := by
 unfold padTo
 have e : d.take (Nat.min d.length n) = d.take n := by
  rcases Nat.le_total d.length n with h | h
  rw [show Nat.min d.length n = d.length from Nat.min_eq_left h, List.take_length, List.take_of_length_le h]
  rw [show Nat.min d.length n = n from Nat.min_eq_right h]
 have e2 : n - Nat.min d.length n = n - d.length := by
  rcases Nat.le_total d.length n with h | h
  rw [show Nat.min d.length n = d.length from Nat.min_eq_left h]
  rw [show Nat.min d.length n = n from Nat.min_eq_right h]; omega
 rw [e]
 simp only [List.take_zero, List.nil_append, List.map_append, List.map_replicate, rep, List.drop_replicate, Nat.zero_add, Nat.mul_one, e2]
 rfl
section
variable {A : Nat → Addr} {V : Vw} {w0 : World} {r : fY} {vd vt vp : Value}
theorem p_nsOf (hV : V.In w0) (hsz : r.host.length ≤ 4294967296) : eC Tryz.prog 131 #[.agg (eY r vd vt vp).toArray] w0 fun v w' => v = .agg (nmC (eN r.host) (eN r.host).length).toArray ∧ St ⟨w0, V, V⟩ w' [] := by
 have hn := cM (n := (eN r.host).length) (eL r.host)
 have hs := St.start hV
 refine aT [_] Tryz.func131 Tryz.ntmps131 Tryz.results131 rfl rfl (dP (aJ (cR hs rfl rfl rfl (fun b1 w hb1 hbe1 hs => aJ (aX hs z_163 rfl (fun b2 w hb2 he2 hs => aH (dP (lp (aR fo_30_7 rfl) rfl (lp (aO rfl (aQ k_9 (hs.g 1 rfl) rfl)) rfl (aZ ok_59 rfl rfl (c_nameOf hs.isIn r.host hsz) rfl (fun v5 w HF => ?_)))))))))))
 obtain ⟨rfl, hc⟩ := HF
 replace hs := hs.frame hc
 refine lp (fO [nmC (eN r.host) (eN r.host).length] st_163 rfl rfl rfl (by simp [hn]) (show _ = nmC (eN r.host) (eN r.host).length by simp)) rfl (aJ (dR 0 hs k_163 rfl rfl rfl hn (by simp) (eU _ _) rfl (fun w hs => aH (aV ⟨_, fW ⟨_, rfl, aP k_163 (hs.g 0 rfl) hn⟩, ?_⟩))))
 exact ⟨rfl, (hs.drop hb2).drop hb1⟩
theorem p_cnameOf (hV : V.In w0) (hsz : r.host.length ≤ 4294967296) : eC Tryz.prog 132 #[.agg (eY r vd vt vp).toArray] w0 fun v w' => v = .agg (nmC (eN r.host) (eN r.host).length).toArray ∧ St ⟨w0, V, V⟩ w' [] := by
 have hn := cM (n := (eN r.host).length) (eL r.host)
 have hs := St.start hV
 refine aT [_] Tryz.func132 Tryz.ntmps132 Tryz.results132 rfl rfl (dP (aJ (cR hs rfl rfl rfl (fun b1 w hb1 hbe1 hs => aJ (aX hs z_168 rfl (fun b2 w hb2 he2 hs => aH (dP (lp (aR fo_30_7 rfl) rfl (lp (aO rfl (aQ k_9 (hs.g 1 rfl) rfl)) rfl (aZ ok_59 rfl rfl (c_nameOf hs.isIn r.host hsz) rfl (fun v5 w HF => ?_)))))))))))
 obtain ⟨rfl, hc⟩ := HF
 replace hs := hs.frame hc
 refine lp (fO [nmC (eN r.host) (eN r.host).length] st_168 rfl rfl rfl (by simp [hn]) (show _ = nmC (eN r.host) (eN r.host).length by simp)) rfl (aJ (dR 0 hs k_168 rfl rfl rfl hn (by simp) (eU _ _) rfl (fun w hs => aH (aV ⟨_, fW ⟨_, rfl, aP k_168 (hs.g 0 rfl) hn⟩, ?_⟩))))
 exact ⟨rfl, (hs.drop hb2).drop hb1⟩
theorem p_ptrOf (hV : V.In w0) (hsz : r.host.length ≤ 4294967296) : eC Tryz.prog 134 #[.agg (eY r vd vt vp).toArray] w0 fun v w' => v = .agg (nmC (eN r.host) (eN r.host).length).toArray ∧ St ⟨w0, V, V⟩ w' [] := by
 have hn := cM (n := (eN r.host).length) (eL r.host)
 have hs := St.start hV
 refine aT [_] Tryz.func134 Tryz.ntmps134 Tryz.results134 rfl rfl (dP (aJ (cR hs rfl rfl rfl (fun b1 w hb1 hbe1 hs => aJ (aX hs z_178 rfl (fun b2 w hb2 he2 hs => aH (dP (lp (aR fo_30_7 rfl) rfl (lp (aO rfl (aQ k_9 (hs.g 1 rfl) rfl)) rfl (aZ ok_59 rfl rfl (c_nameOf hs.isIn r.host hsz) rfl (fun v5 w HF => ?_)))))))))))
 obtain ⟨rfl, hc⟩ := HF
 replace hs := hs.frame hc
 refine lp (fO [nmC (eN r.host) (eN r.host).length] st_178 rfl rfl rfl (by simp [hn]) (show _ = nmC (eN r.host) (eN r.host).length by simp)) rfl (aJ (dR 0 hs k_178 rfl rfl rfl hn (by simp) (eU _ _) rfl (fun w hs => aH (aV ⟨_, fW ⟨_, rfl, aP k_178 (hs.g 0 rfl) hn⟩, ?_⟩))))
 exact ⟨rfl, (hs.drop hb2).drop hb1⟩
set_option maxHeartbeats 1000000 in
theorem p_mxOf (hV : V.In w0) (hsz : r.host.length ≤ 4294967296) (hsb : r.box.length ≤ 4294967296) : eC Tryz.prog 135 #[.agg (eY r vd vt vp).toArray] w0 fun v w' => v = .agg (.int .u16 (r.n1 % 65536 : Nat) :: nmC (eN r.host) (eN r.host).length : List Value).toArray ∧ St ⟨w0, V, V⟩ w' [] := by
 have hn := cM (n := (eN r.host).length) (eL r.host)
 have hnb := cM (n := (eN r.box).length) (eL r.box)
 have hs := St.start hV
 refine aT [_] Tryz.func135 Tryz.ntmps135 Tryz.results135 rfl rfl (dP (aJ (cR hs rfl rfl rfl (fun b1 w hb1 hbe1 hs => aJ (aX hs z_183 rfl (fun b2 w hb2 he2 hs => aH (aF (bV hs [1, 4] mixed (fun w hs => dI 0 rfl (fun w => aR fo_30_9 rfl) rfl rfl (dJ 1 rfl hs rfl (fun w hs => (aO rfl (aQ cB (hs.g 1 rfl) rfl))) rfl (dI 2 rfl (fun w => bY Tryz.underlying27 Tryz.underlying22 rfl u16mod) rfl rfl (dI 3 rfl (fun w => aR fo_30_7 rfl) rfl rfl (dJ 4 rfl hs rfl (fun w hs => (aO rfl (aQ k_9 (hs.g 1 rfl) rfl))) rfl (dL 5 rfl (cF (cD rfl rfl ok_59 (c_nameOf hs.isIn r.host hsz)) rfl (fun v8 w HF => ?_))))))))))))))))
 obtain ⟨rfl, hc⟩ := HF
 replace hs := hs.frame hc
 refine ⟨fun _ => hs, dI 6 rfl (fun w => (fO [[.int .u16 (r.n1 % 65536 : Nat)], nmC (eN r.host) (eN r.host).length] st_183 rfl rfl rfl (by simp [hn, hnb]) (show _ = (.int .u16 (r.n1 % 65536 : Nat) :: nmC (eN r.host) (eN r.host).length : List Value) by simp))) rfl rfl (dL 7 rfl (dR 0 hs k_183 rfl rfl rfl (by simp [hn, hnb]) (by simp) (bX rfl (eU _ _)) rfl (fun w hs => ⟨fun h => absurd h (by decide +kernel), bS (by decide +kernel) (aV ⟨_, fW ⟨_, rfl, aP k_183 (hs.g 0 rfl) (by simp [hn, hnb])⟩, ?_⟩)⟩)))⟩
 exact ⟨rfl, (hs.drop hb2).drop hb1⟩
set_option maxHeartbeats 1000000 in
theorem p_srvOf (hV : V.In w0) (hsz : r.host.length ≤ 4294967296) (hsb : r.box.length ≤ 4294967296) : eC Tryz.prog 138 #[.agg (eY r vd vt vp).toArray] w0 fun v w' => v = .agg (.int .u16 (r.n1 % 65536 : Nat) :: .int .u16 (r.n2 % 65536 : Nat) :: .int .u16 (r.n3 % 65536 : Nat) :: nmC (eN r.host) (eN r.host).length : List Value).toArray ∧ St ⟨w0, V, V⟩ w' [] := by
 have hn := cM (n := (eN r.host).length) (eL r.host)
 have hnb := cM (n := (eN r.box).length) (eL r.box)
 have hs := St.start hV
 refine aT [_] Tryz.func138 Tryz.ntmps138 Tryz.results138 rfl rfl (dP (aJ (cR hs rfl rfl rfl (fun b1 w hb1 hbe1 hs => aJ (aX hs z_199 rfl (fun b2 w hb2 he2 hs => aH (aF (bV hs [1, 4, 7, 10] mixed (fun w hs => dI 0 rfl (fun w => aR fo_30_9 rfl) rfl rfl (dJ 1 rfl hs rfl (fun w hs => (aO rfl (aQ cB (hs.g 1 rfl) rfl))) rfl (dI 2 rfl (fun w => bY Tryz.underlying27 Tryz.underlying22 rfl u16mod) rfl rfl (dI 3 rfl (fun w => aR fo_30_10 rfl) rfl rfl (dJ 4 rfl hs rfl (fun w hs => (aO rfl (aQ cB (hs.g 1 rfl) rfl))) rfl (dI 5 rfl (fun w => bY Tryz.underlying27 Tryz.underlying22 rfl u16mod) rfl rfl (dI 6 rfl (fun w => aR fo_30_11 rfl) rfl rfl ?_)))))))))))))))
 refine dJ 7 rfl hs rfl (fun w hs => (aO rfl (aQ cB (hs.g 1 rfl) rfl))) rfl (dI 8 rfl (fun w => bY Tryz.underlying27 Tryz.underlying22 rfl u16mod) rfl rfl (dI 9 rfl (fun w => aR fo_30_7 rfl) rfl rfl (dJ 10 rfl hs rfl (fun w hs => (aO rfl (aQ k_9 (hs.g 1 rfl) rfl))) rfl (dL 11 rfl (cF (cD rfl rfl ok_59 (c_nameOf hs.isIn r.host hsz)) rfl (fun v14 w HF => ?_))))))
 obtain ⟨rfl, hc⟩ := HF
 replace hs := hs.frame hc
 refine ⟨fun _ => hs, dI 12 rfl (fun w => (fO [[.int .u16 (r.n1 % 65536 : Nat)], [.int .u16 (r.n2 % 65536 : Nat)], [.int .u16 (r.n3 % 65536 : Nat)], nmC (eN r.host) (eN r.host).length] st_199 rfl rfl rfl (by simp [hn, hnb]) (show _ = (.int .u16 (r.n1 % 65536 : Nat) :: .int .u16 (r.n2 % 65536 : Nat) :: .int .u16 (r.n3 % 65536 : Nat) :: nmC (eN r.host) (eN r.host).length : List Value) by simp))) rfl rfl (dL 13 rfl (dR 0 hs k_199 rfl rfl rfl (by simp [hn, hnb]) (by simp) (bX rfl (bX rfl (bX rfl (eU _ _)))) rfl (fun w hs => ⟨fun h => absurd h (by decide +kernel), bS (by decide +kernel) (aV ⟨_, fW ⟨_, rfl, aP k_199 (hs.g 0 rfl) (by simp [hn, hnb])⟩, ?_⟩)⟩)))⟩
 exact ⟨rfl, (hs.drop hb2).drop hb1⟩
set_option maxHeartbeats 1000000 in
theorem p_soaOf (hV : V.In w0) (hsz : r.host.length ≤ 4294967296) (hsb : r.box.length ≤ 4294967296) : eC Tryz.prog 133 #[.agg (eY r vd vt vp).toArray] w0 fun v w' => v = .agg (nmC (eN r.host) (eN r.host).length ++ (nmC (eN r.box) (eN r.box).length ++ [.int .u32 r.n1, .int .u32 r.n2, .int .u32 r.n3, .int .u32 r.n4, .int .u32 r.n5]) : List Value).toArray ∧ St ⟨w0, V, V⟩ w' [] := by
 have hn := cM (n := (eN r.host).length) (eL r.host)
 have hnb := cM (n := (eN r.box).length) (eL r.box)
 have hs := St.start hV
 refine aT [_] Tryz.func133 Tryz.ntmps133 Tryz.results133 rfl rfl (dP (aJ (cR hs rfl rfl rfl (fun b1 w hb1 hbe1 hs => aJ (aX hs z_173 rfl (fun b2 w hb2 he2 hs => aH (aF (bV hs [1, 4, 7, 9, 11, 13, 15] mixed (fun w hs => dI 0 rfl (fun w => aR fo_30_7 rfl) rfl rfl (dJ 1 rfl hs rfl (fun w hs => (aO rfl (aQ k_9 (hs.g 1 rfl) rfl))) rfl (dI 3 rfl (fun w => aR fo_30_8 rfl) rfl rfl (dJ 4 rfl hs rfl (fun w hs => (aO rfl (aQ k_9 (hs.g 1 rfl) rfl))) rfl (dI 6 rfl (fun w => aR fo_30_9 rfl) rfl rfl (dJ 7 rfl hs rfl (fun w hs => (aO rfl (aQ cB (hs.g 1 rfl) rfl))) rfl (dI 8 rfl (fun w => aR fo_30_10 rfl) rfl rfl ?_)))))))))))))))
 refine dJ 9 rfl hs rfl (fun w hs => (aO rfl (aQ cB (hs.g 1 rfl) rfl))) rfl (dI 10 rfl (fun w => aR fo_30_11 rfl) rfl rfl (dJ 11 rfl hs rfl (fun w hs => (aO rfl (aQ cB (hs.g 1 rfl) rfl))) rfl (dI 12 rfl (fun w => aR fo_30_12 rfl) rfl rfl (dJ 13 rfl hs rfl (fun w hs => (aO rfl (aQ cB (hs.g 1 rfl) rfl))) rfl (dI 14 rfl (fun w => aR fo_30_13 rfl) rfl rfl (dJ 15 rfl hs rfl (fun w hs => (aO rfl (aQ cB (hs.g 1 rfl) rfl))) rfl (dL 2 rfl (cF (cD rfl rfl ok_59 (c_nameOf hs.isIn r.host hsz)) rfl (fun v5 w HF => ?_)))))))))
 obtain ⟨rfl, hc⟩ := HF
 replace hs := hs.frame hc
 refine ⟨fun _ => hs, dL 5 rfl (cF (cD rfl rfl ok_59 (c_nameOf hs.isIn r.box hsb)) rfl (fun v8 w HF => ?_))⟩
 obtain ⟨rfl, hc⟩ := HF
 replace hs := hs.frame hc
 refine ⟨fun _ => hs, dI 16 rfl (fun w => (fO [nmC (eN r.host) (eN r.host).length, nmC (eN r.box) (eN r.box).length, [.int .u32 r.n1], [.int .u32 r.n2], [.int .u32 r.n3], [.int .u32 r.n4], [.int .u32 r.n5]] st_173 rfl rfl rfl (by simp [hn, hnb]) (show _ = (nmC (eN r.host) (eN r.host).length ++ (nmC (eN r.box) (eN r.box).length ++ [.int .u32 r.n1, .int .u32 r.n2, .int .u32 r.n3, .int .u32 r.n4, .int .u32 r.n5]) : List Value) by simp))) rfl rfl (dL 17 rfl (dR 0 hs k_173 rfl rfl rfl (by simp [hn, hnb]) (by simp) (fD (eU _ _) (fD (eU _ _) (aG rfl))) rfl (fun w hs => ⟨fun h => absurd h (by decide +kernel), bS (by decide +kernel) (aV ⟨_, fW ⟨_, rfl, aP k_173 (hs.g 0 rfl) (by simp [hn, hnb])⟩, ?_⟩)⟩)))⟩
 exact ⟨rfl, (hs.drop hb2).drop hb1⟩
set_option maxHeartbeats 1000000 in
theorem p_aOf (hV : V.In w0) (hD : RB V vd r.data) : eC Tryz.prog 130 #[.agg (eY r vd vt vp).toArray] w0 fun v w' => v = .agg ((padTo r.data 4).map eA).toArray ∧ St ⟨w0, V, V⟩ w' [] := by
 have hs := St.start hV
 have hpl := padTo_len r.data 4
 have hz : ∀ {w b2 b1 b3 : Nat} , True := fun {_ _ _ _} => trivial
 refine aT [_] Tryz.func130 Tryz.ntmps130 Tryz.results130 rfl rfl (dP (aJ (cR hs rfl rfl rfl (fun b1 w hb1 hbe1 hs => aJ (aX hs z_157 rfl (fun b2 w hb2 he2 hs => aH (dP (lp (bM (vs := []) (ps := []) rfl bz_157) rfl (aJ (aX hs z_157 rfl (fun b3 w hb3 he3 hs => aJ (dR 0 hs k_157 rfl rfl rfl (by rfl) (by rfl) (aG (by decide +kernel)) rfl (fun w hs => ?_)))))))))))))
 replace hs : St ⟨w0, V, V⟩ w [(b3, .cells (rep 4 (.int .u8 0)).toArray 157 (0, 0)), (b2, .cells (rep 4 (.int .u8 0)).toArray 157 (0, 0)), (b1, .cells (eY r vd vt vp).toArray 30 (0, 0))] := hs
 refine aH (aF (bV hs [3] mixed (fun w hs => dI 0 rfl (fun w => aR fo_157_0 rfl) rfl rfl (dI 1 rfl (fun w => (po_slice_arrA ar_155 (by decide) rfl)) rfl rfl (dI 2 rfl (fun w => aR fo_30_6 rfl) rfl rfl (dJ 3 rfl hs rfl (fun w hs => (aO rfl (aQ k_23 (hs.g 2 rfl) rfl))) rfl (dL 4 rfl (o_copy (kk := 0) (k := Nat.min r.data.length 4) (sl := r.data.length) (news := (r.data.take (Nat.min r.data.length 4)).map eA) es_23 hs rfl rfl hD.len rfl (RB.fst hD hs.isIn (Nat.min_le_left _ _)) (dH _) rfl (by have := Nat.min_le_right r.data.length 4; simp; omega) rfl rfl (fun w hs => ?_)))))))))
 rw [padTo_cells] at hs
 refine ⟨fun h => absurd h (by decide +kernel), bS (by decide +kernel) (dP (lp (aO rfl (aP k_157 (hs.g 0 rfl) (by simp [hpl]))) rfl (aJ (dR 1 hs k_157 rfl rfl rfl (by simp [hpl]) (by simp) (dH _) rfl (fun w hs => aH (aV ⟨_, fW ⟨_, rfl, aP k_157 (hs.g 1 rfl) (by simp [hpl])⟩, ?_⟩))))))⟩
 exact ⟨rfl, ((hs.drop hb3).drop hb2).drop hb1⟩
set_option maxHeartbeats 1000000 in
theorem p_aaaaOf (hV : V.In w0) (hD : RB V vd r.data) : eC Tryz.prog 137 #[.agg (eY r vd vt vp).toArray] w0 fun v w' => v = .agg ((padTo r.data 16).map eA).toArray ∧ St ⟨w0, V, V⟩ w' [] := by
 have hs := St.start hV
 have hpl := padTo_len r.data 16
 have hz : ∀ {w b2 b1 b3 : Nat} , True := fun {_ _ _ _} => trivial
 refine aT [_] Tryz.func137 Tryz.ntmps137 Tryz.results137 rfl rfl (dP (aJ (cR hs rfl rfl rfl (fun b1 w hb1 hbe1 hs => aJ (aX hs z_194 rfl (fun b2 w hb2 he2 hs => aH (dP (lp (bM (vs := []) (ps := []) rfl bz_194) rfl (aJ (aX hs z_194 rfl (fun b3 w hb3 he3 hs => aJ (dR 0 hs k_194 rfl rfl rfl (by rfl) (by rfl) (aG (by decide +kernel)) rfl (fun w hs => ?_)))))))))))))
 replace hs : St ⟨w0, V, V⟩ w [(b3, .cells (rep 16 (.int .u8 0)).toArray 194 (0, 0)), (b2, .cells (rep 16 (.int .u8 0)).toArray 194 (0, 0)), (b1, .cells (eY r vd vt vp).toArray 30 (0, 0))] := hs
 refine aH (aF (bV hs [3] mixed (fun w hs => dI 0 rfl (fun w => aR fo_194_0 rfl) rfl rfl (dI 1 rfl (fun w => (po_slice_arrA ar_192 (by decide) rfl)) rfl rfl (dI 2 rfl (fun w => aR fo_30_6 rfl) rfl rfl (dJ 3 rfl hs rfl (fun w hs => (aO rfl (aQ k_23 (hs.g 2 rfl) rfl))) rfl (dL 4 rfl (o_copy (kk := 0) (k := Nat.min r.data.length 16) (sl := r.data.length) (news := (r.data.take (Nat.min r.data.length 16)).map eA) es_23 hs rfl rfl hD.len rfl (RB.fst hD hs.isIn (Nat.min_le_left _ _)) (dH _) rfl (by have := Nat.min_le_right r.data.length 16; simp; omega) rfl rfl (fun w hs => ?_)))))))))
 rw [padTo_cells] at hs
 refine ⟨fun h => absurd h (by decide +kernel), bS (by decide +kernel) (dP (lp (aO rfl (aP k_194 (hs.g 0 rfl) (by simp [hpl]))) rfl (aJ (dR 1 hs k_194 rfl rfl rfl (by simp [hpl]) (by simp) (dH _) rfl (fun w hs => aH (aV ⟨_, fW ⟨_, rfl, aP k_194 (hs.g 1 rfl) (by simp [hpl])⟩, ?_⟩))))))⟩
 exact ⟨rfl, ((hs.drop hb3).drop hb2).drop hb1⟩
end
end Go.Proofs.YtgpfjlfkaoffeaaGreatDoor

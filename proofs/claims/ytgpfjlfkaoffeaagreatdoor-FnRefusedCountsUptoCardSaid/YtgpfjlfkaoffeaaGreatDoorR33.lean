/- The law FnRefusedCounts. -/
import Derived.Test.YtgpfjlfkaoffeaaGreatDoorR32
import Derived.Test.YtgpfjlfkaoffeaaGreatDoorR25
set_option linter.all false
namespace Go.Proofs.YtgpfjlfkaoffeaaGreatDoor
open Go
theorem Pkb.mfit {m : PMess} (h : Pkb m) : MFit m := by
 obtain ⟨⟨a, b, c, d⟩, e, f, hs⟩ := h
 have hsm : sizeM m = 12 + sumT askS m.asks m.asks.length + sizeL m.answers + sizeL m.authorities + sizeL m.additionals := rfl
 have fit : ∀ {l : List fY}, sizeL l ≤ 60000 → ∀ r ∈ l, FitS r := fun hl r hr => by
  have h1 := sizeR_mem hr
  unfold sizeR at h1
  exact ⟨by omega, by omega, by omega⟩
 exact ⟨a, b, c, d, by omega, by omega, fit (by omega), fit (by omega), fit (by omega)⟩
theorem packM_12 {m : PMess} {o : List UInt8} (h : packM m = some o) : 12 ≤ o.length := by
 obtain ⟨t, rfl⟩ := packM_head h
 have : (headP m).length = 12 := by simp [headP, be2]
 rw [List.length_append]; omega
theorem cellB {o : List UInt8} {sp : List Value} {j : Nat} (h : j < o.length) : (o.map eA ++ sp)[j]? = some (.int .u8 (eB o j)) := by
 rw [List.getElem?_append_left (by simpa using h), List.getElem?_map, List.getElem?_eq_getElem h]
 simp [eA, eB, List.getD_eq_getElem?_getD, List.getElem?_eq_getElem h]
theorem setB1 {l : List UInt8} {i : Nat} {a : UInt8} {sp : List Value} (h : i < l.length) : (l.map eA ++ sp).set i (eA a) = (l.set i a).map eA ++ sp := by
 rw [List.set_append_left _ _ (by simpa using h), ← List.map_set]
theorem byteAt_set {l : List UInt8} {i : Nat} {a : UInt8} (h : i < l.length) : eB (l.set i a) i = a.toNat := by
 simp [eB, List.getD_eq_getElem?_getD, h]
theorem byteAt_set_ne {l : List UInt8} {i j : Nat} {a : UInt8} (h : j ≠ i) : eB (l.set i a) j = eB l j := by
 unfold eB
 rw [List.getD_eq_getElem?_getD, List.getD_eq_getElem?_getD, List.getElem?_set_ne (fun e => h e.symm)]
theorem po_neqT {P : Program} {ρ : Env} {w : World} {T T' : TypeId} {x y : Operand} {k : IntKind} {a b : Int} (hx : ev ρ x = some (.int k a)) (hy : ev ρ y = some (.int k b)) (h : a ≠ b) : PO P (.binOp .neq T x y T') ρ w (.bool true) := by
 have q := po_neq (P := P) (w := w) (T := T) (T' := T') hx hy
 rwa [decide_eq_true h] at q
theorem po_neqF {P : Program} {ρ : Env} {w : World} {T T' : TypeId} {x y : Operand} {k : IntKind} {a b : Int} (hx : ev ρ x = some (.int k a)) (hy : ev ρ y = some (.int k b)) (h : a = b) : PO P (.binOp .neq T x y T') ρ w (.bool false) := by
 have q := po_neq (P := P) (w := w) (T := T) (T' := T') hx hy
 rwa [decide_eq_false (fun e => e h)] at q
theorem po_lssT {P : Program} {ρ : Env} {w : World} {T T' : TypeId} {x y : Operand} {k : IntKind} {a b : Int} (hx : ev ρ x = some (.int k a)) (hy : ev ρ y = some (.int k b)) (h : a < b) : PO P (.binOp .lss T x y T') ρ w (.bool true) := by
 have q := cY (P := P) (w := w) (T := T) (T' := T') hx hy
 rwa [decide_eq_true h] at q
theorem po_lssF {P : Program} {ρ : Env} {w : World} {T T' : TypeId} {x y : Operand} {k : IntKind} {a b : Int} (hx : ev ρ x = some (.int k a)) (hy : ev ρ y = some (.int k b)) (h : ¬ a < b) : PO P (.binOp .lss T x y T') ρ w (.bool false) := by
 have q := cY (P := P) (w := w) (T := T) (T' := T') hx hy
 rwa [decide_eq_false h] at q
theorem pkb_no {m : PMess} (h : ¬ Pkb m) : decide ((m.asks.length ≤ 65535 ∧ m.answers.length ≤ 65535 ∧ m.authorities.length ≤ 65535 ∧ m.additionals.length ≤ 65535) ∧ m.head.op ≤ 15 ∧ m.head.code ≤ 15 ∧ sizeM m ≤ 60000) = false := decide_eq_false h
theorem pkb_yes {m : PMess} (h : Pkb m) : decide ((m.asks.length ≤ 65535 ∧ m.answers.length ≤ 65535 ∧ m.authorities.length ≤ 65535 ∧ m.additionals.length ≤ 65535) ∧ m.head.op ≤ 15 ∧ m.head.code ≤ 15 ∧ sizeM m ≤ 60000) = true := decide_eq_true h
theorem u8inc (x : Nat) : IntKind.u8.wrap ((x : Int) + 1) = ((UInt8.ofNat (x + 1)).toNat : Int) := by
 rw [show (x : Int) + 1 = ((x + 1 : Nat) : Int) from by omega]; exact u8lo
section
variable {A : Nat → Addr} {V : Vw} {w0 : World} {m : PMess} {va v1 v2 v3 : Value}
set_option maxHeartbeats 8000000 in
theorem c_FnRefusedCounts (hG : Gl A V) (hV : V.In w0) (hQ : RAsksW V va m.asks) (hA : RRecsK V v1 m.answers) (hU : RRecsK V v2 m.authorities) (hD : RRecsK V v3 m.additionals) (hsz : sizeM m ≤ 4611686018427387904) (n : Int) :
  eC Tryz.prog 4 #[.agg (fJ m.head ++ [va, v1, v2, v3]).toArray, .int .i64 n] w0 (LawQ V w0) := by
 obtain ⟨a1, c1, rfl⟩ := hA.form
 obtain ⟨a2, c2, rfl⟩ := hU.form
 obtain ⟨a3, c3, rfl⟩ := hD.form
 obtain ⟨aq, cq, rfl⟩ : ∃ a c, va = .slice a m.asks.length c := by
  obtain ⟨xs, hS, _⟩ := hQ
  obtain ⟨a, c, h1, _⟩ := hS.form
  exact ⟨a, c, h1⟩
 have hs := St.start hV
 have hg : true = true := rfl
 refine aT [_, _] Tryz.func4 Tryz.ntmps4 Tryz.results4 rfl rfl (dP (aJ (cR hs rfl rfl rfl (fun b2 w hb2 hbe2 hs => ?_))))
 replace hs : St ⟨w0, V, V⟩ w [(b2, .cells (fJ m.head ++ [Value.slice aq m.asks.length cq, .slice a1 m.answers.length c1, .slice a2 m.authorities.length c2, .slice a3 m.additionals.length c3]).toArray 36 (0, 0))] := hs
 refine dN rfl rfl (aH (aF (dP (lp (aO rfl (aP k_36 (hs.g 0 rfl) rfl)) rfl (aZ ok_9 rfl rfl (z_fits1 hs.isIn hQ hA hU hD hsz) rfl (fun v11 w HF => ?_))))))
 obtain ⟨bb, rfl, hc⟩ := HF
 replace hs := hs.frame hc
 refine lp (cS rfl) rfl (aH (bJ rfl (fun hc0 => ?_) (fun hc0 => ?_)))
 refine dP (dN rfl rfl (aH (aV ⟨_, fW rfl, ?_⟩)))
 exact ⟨rfl, _, hs.drop hb2⟩
 refine aW (aF (dG (fun ρ w2 => ∃ (bad : Bool), Sub (eH (eH (eH emp 41 (.bool bad)) 2 (.pointer (some ⟨b2, 0, none⟩))) 1 (.int .i64 n)) ρ ∧ St ⟨w0, V, V⟩ w2 [(b2, .cells (fJ m.head ++ [Value.slice aq m.asks.length cq, .slice a1 m.answers.length c1, .slice a2 m.authorities.length c2, .slice a3 m.additionals.length c3]).toArray 36 (0, 0))] ∧ (bad = false → Pkb m ∧ 0 ≤ n ∧ n ≤ 3)) ?_ ?_))
 rcases (show ¬ Pkb m ∨ (Pkb m ∧ n < 0) ∨ (Pkb m ∧ 0 ≤ n ∧ 3 < n) ∨ (Pkb m ∧ 0 ≤ n ∧ n ≤ 3) by by_cases hp : Pkb m <;> simp only [hp, true_and, false_and, not_true, not_false_iff, false_or, or_false] <;> omega) with h1 | ⟨h1, h2⟩ | ⟨h1, h2, h3⟩ | ⟨h1, h2, h3⟩
 refine aB (lp (aO rfl (aP k_36 (hs.g 0 rfl) rfl)) rfl (aZ ok_10 rfl rfl (n_Packable hs.isIn hQ hA hU hD hsz) rfl (fun v14 w HF => ?_)))
 obtain ⟨rfl, hc⟩ := HF
 replace hs := hs.frame hc
 refine lp (cS (b := false) (by rw [pkb_no h1]; rfl)) rfl (dM rfl rfl (aU rfl rfl rfl rfl (aU rfl rfl rfl rfl (lp (bO rfl rfl rfl) rfl (dM rfl rfl (aU rfl rfl rfl rfl (aU rfl rfl rfl rfl (lp (bO rfl rfl rfl) rfl (dM rfl rfl (aU rfl rfl rfl rfl (aU rfl rfl rfl rfl (aU rfl rfl rfl rfl (aU rfl rfl rfl rfl ?_)))))))))))))
 refine aU rfl rfl rfl rfl (aU rfl rfl rfl rfl (aU rfl rfl rfl rfl (aU rfl rfl rfl rfl (aU rfl rfl rfl rfl (aU rfl rfl rfl rfl (aU rfl rfl rfl rfl (aU rfl rfl rfl rfl (aU rfl rfl rfl rfl (aU rfl rfl rfl rfl (aU rfl rfl rfl rfl (aU rfl rfl rfl rfl (lp (bO rfl rfl rfl) rfl (aH ?_)))))))))))))
 exact ⟨true, aL rfl (aL rfl (aL rfl (bG _))), hs, fun h => by cases h⟩
 refine aB (lp (aO rfl (aP k_36 (hs.g 0 rfl) rfl)) rfl (aZ ok_10 rfl rfl (n_Packable hs.isIn hQ hA hU hD hsz) rfl (fun v14 w HF => ?_)))
 obtain ⟨rfl, hc⟩ := HF
 replace hs := hs.frame hc
 refine lp (cS (b := true) (by rw [pkb_yes h1]; rfl)) rfl (dM rfl rfl (lg rfl rfl rfl (aC rfl) rfl (lg rfl rfl rfl (po_lssT rfl rfl h2) rfl (lp (bW rfl rfl rfl) rfl (dM rfl rfl (aU rfl rfl rfl rfl (aU rfl rfl rfl rfl (lp (bO rfl rfl rfl) rfl (dM rfl rfl (aU rfl rfl rfl rfl (aU rfl rfl rfl rfl (aU rfl rfl rfl rfl (aU rfl rfl rfl rfl ?_)))))))))))))
 refine aU rfl rfl rfl rfl (aU rfl rfl rfl rfl (aU rfl rfl rfl rfl (aU rfl rfl rfl rfl (aU rfl rfl rfl rfl (aU rfl rfl rfl rfl (aU rfl rfl rfl rfl (aU rfl rfl rfl rfl (aU rfl rfl rfl rfl (aU rfl rfl rfl rfl (aU rfl rfl rfl rfl (aU rfl rfl rfl rfl (lp (bO rfl rfl rfl) rfl (aH ?_)))))))))))))
 exact ⟨true, aL rfl (aL rfl (aL rfl (bG _))), hs, fun h => by cases h⟩
 refine aB (lp (aO rfl (aP k_36 (hs.g 0 rfl) rfl)) rfl (aZ ok_10 rfl rfl (n_Packable hs.isIn hQ hA hU hD hsz) rfl (fun v14 w HF => ?_)))
 obtain ⟨rfl, hc⟩ := HF
 replace hs := hs.frame hc
 refine lp (cS (b := true) (by rw [pkb_yes h1]; rfl)) rfl (dM rfl rfl (lg rfl rfl rfl (aC rfl) rfl (lg rfl rfl rfl (po_lssF rfl rfl (by omega)) rfl (lp (bW rfl rfl rfl) rfl (dM rfl rfl (lg rfl rfl rfl (aC rfl) rfl (lg rfl rfl rfl (po_gtrT rfl rfl h3) rfl (lp (bW rfl rfl rfl) rfl (dM rfl rfl (aU rfl rfl rfl rfl (aU rfl rfl rfl rfl (aU rfl rfl rfl rfl (aU rfl rfl rfl rfl ?_)))))))))))))
 refine aU rfl rfl rfl rfl (aU rfl rfl rfl rfl (aU rfl rfl rfl rfl (aU rfl rfl rfl rfl (aU rfl rfl rfl rfl (aU rfl rfl rfl rfl (aU rfl rfl rfl rfl (aU rfl rfl rfl rfl (aU rfl rfl rfl rfl (aU rfl rfl rfl rfl (aU rfl rfl rfl rfl (aU rfl rfl rfl rfl (lp (bO rfl rfl rfl) rfl (aH ?_)))))))))))))
 exact ⟨true, aL rfl (aL rfl (aL rfl (bG _))), hs, fun h => by cases h⟩
 refine aB (lp (aO rfl (aP k_36 (hs.g 0 rfl) rfl)) rfl (aZ ok_10 rfl rfl (n_Packable hs.isIn hQ hA hU hD hsz) rfl (fun v14 w HF => ?_)))
 obtain ⟨rfl, hc⟩ := HF
 replace hs := hs.frame hc
 refine lp (cS (b := true) (by rw [pkb_yes h1]; rfl)) rfl (dM rfl rfl ?_)
 have hp0 := h1.1
 refine lg rfl rfl rfl (aC rfl) rfl (lg rfl rfl rfl (po_lssF rfl rfl (by omega)) rfl (lp (bW rfl rfl rfl) rfl (dM rfl rfl (lg rfl rfl rfl (aC rfl) rfl (lg rfl rfl rfl (po_gtrF rfl rfl (by omega)) rfl (lp (bW rfl rfl rfl) rfl (dM rfl rfl (lg rfl rfl rfl (aR fo_36_1 rfl) rfl (lg rfl rfl rfl (aO rfl (cT (a := fJ m.head) (i := 0) k_34 (hs.g 0 rfl) rfl rfl rfl)) rfl (lg rfl rfl rfl (bC Tryz.underlying34 rfl) rfl (lg rfl rfl rfl (aR fo_36_2 rfl) rfl (lg rfl rfl rfl (aO rfl (cT (a := fJ m.head) (i := 1) k_31 (hs.g 0 rfl) rfl rfl rfl)) rfl (lg rfl rfl rfl (bC Tryz.underlying31 rfl) rfl ?_)))))))))))))
 refine lg rfl rfl rfl (bN rfl rfl (fV (c := m.asks.length + m.answers.length) (by omega) (by omega))) rfl (lg rfl rfl rfl (aR fo_36_3 rfl) rfl (lg rfl rfl rfl (aO rfl (cT (a := fJ m.head) (i := 2) k_31 (hs.g 0 rfl) rfl rfl rfl)) rfl (lg rfl rfl rfl (bC Tryz.underlying31 rfl) rfl (lg rfl rfl rfl (bN rfl rfl (fV (c := m.asks.length + m.answers.length + m.authorities.length) (by omega) (by omega))) rfl (lg rfl rfl rfl (aR fo_36_4 rfl) rfl (lg rfl rfl rfl (aO rfl (cT (a := fJ m.head) (i := 3) k_31 (hs.g 0 rfl) rfl rfl rfl)) rfl (lg rfl rfl rfl (bC Tryz.underlying31 rfl) rfl (lg rfl rfl rfl (bN rfl rfl (fV (c := m.asks.length + m.answers.length + m.authorities.length + m.additionals.length) (by omega) (by omega))) rfl (lg rfl rfl rfl (cQ rfl rfl) rfl (lp (bW rfl rfl rfl) rfl (aH ?_)))))))))))
 exact ⟨_, aL rfl (aL rfl (aL rfl (bG _))), hs, fun _ => ⟨h1, h2, h3⟩⟩
 clear hs
 rintro ρ w2 ⟨bad, hsub, hs, hbad⟩
 refine EW.weaken hsub (bJ rfl (fun hc1 => ?_) (fun hc1 => ?_))
 refine dP (aZ ok_7 rfl rfl (c_packs (hG.mono hs.view) hs.isIn) rfl (fun v42 w HF => ?_))
 obtain ⟨rfl, VP, hc⟩ := HF
 replace hs := hs.frame hc
 refine dN rfl rfl (aH (aV ⟨_, fW rfl, ?_⟩))
 exact ⟨rfl, _, hs.drop hb2⟩
 obtain ⟨hpk, hn0, hn3⟩ := hbad hc1
 have hmfit := hpk.mfit
 refine aW (dG (fun ρ w2 => ∃ (x : Value) (ok : Bool), Sub (eH (eH (eH (eH emp 6 (.bool ok)) 5 x) 2 (.pointer (some ⟨b2, 0, none⟩))) 1 (.int .i64 n)) ρ ∧ ((ok = false ∧ St ⟨w0, V, V⟩ w2 [(b2, .cells (fJ m.head ++ [Value.slice aq m.asks.length cq, .slice a1 m.answers.length c1, .slice a2 m.authorities.length c2, .slice a3 m.additionals.length c3]).toArray 36 (0, 0))]) ∨ (ok = true ∧ ∃ (o : List UInt8) (g cap : Nat) (sp : List Value), x = .slice (some ⟨g, 0, none⟩) o.length cap ∧ packM m = some o ∧ o.length ≤ cap ∧ w0.heap.size ≤ g ∧ St ⟨w0, V, V⟩ w2 [(g, .cells (o.map eA ++ sp).toArray 5 (0, 0)), (b2, .cells (fJ m.head ++ [Value.slice aq m.asks.length cq, .slice a1 m.answers.length c1, .slice a2 m.authorities.length c2, .slice a3 m.additionals.length c3]).toArray 36 (0, 0))]))) ?_ ?_)
 refine aB (lp (aO rfl (aP k_36 (hs.g 0 rfl) rfl)) rfl (aZ ok_11 rfl rfl (n_Pack hs.isIn hQ hA hU hD hmfit) rfl (fun v45 w HF => ?_)))
 obtain ⟨x, ok, rfl, hr⟩ := HF
 refine dM rfl rfl (dO rfl rfl rfl (dO rfl rfl rfl (dN rfl rfl (dN rfl rfl (aH ⟨x, ok, aL rfl (aL rfl (aL rfl (aL rfl (bG _)))), ?_⟩)))))
 rcases hr with ⟨o, h1, h2, hsl⟩ | ⟨h1, _, _, hc⟩
 have h12 := packM_12 h2
 obtain ⟨g, cap, sp, hx, hcl, hnc, hcm, hgb, hc⟩ := hsl.2.resolve_left (fun h => by have := h.2.1; omega)
 exact .inr ⟨h1, o, g, cap, sp, hx, h2, hnc, Nat.le_trans hs.size hgb, hs.frameL hc (fun z hz => by simp at hz; subst hz; exact hgb)⟩
 exact .inl ⟨h1, hs.frame hc⟩
 clear hs
 rintro ρ w2 ⟨x, ok, hsub, hcase⟩
 refine EW.weaken hsub (aF (dP (dM rfl rfl (lp (cS rfl) rfl (aH (bJ rfl (fun hc2 => ?_) (fun hc2 => ?_)))))))
 obtain rfl : ok = false := by simpa using hc2
 have hs := (hcase.resolve_right (fun h => by cases h.1)).2
 refine dP (aZ ok_7 rfl rfl (c_packs (hG.mono hs.view) hs.isIn) rfl (fun v50 w HF => ?_))
 obtain ⟨rfl, VP, hc⟩ := HF
 replace hs := hs.frame hc
 refine dN rfl rfl (aH (aV ⟨_, fW rfl, ?_⟩))
 exact ⟨rfl, _, hs.drop hb2⟩
 obtain rfl : ok = true := by simpa using hc2
 obtain ⟨_, o, g, cap, sp, rfl, hpm, hcap, hgb, hs⟩ := hcase.resolve_left (fun h => by cases h.1)
 clear hcase
 obtain ⟨q, hq4, rfl⟩ : ∃ q : Nat, q < 4 ∧ n = q := ⟨n.toNat, by omega, by omega⟩
 have h12 := packM_12 hpm
 have hlen := packM_len hpk hpm
 refine aW (dP (dM rfl rfl (dM rfl rfl (lp (po_mul rfl rfl (fV (c := 2 * q) (by omega) (by omega))) rfl (lp (bN rfl rfl (fV (c := 5 + 2 * q) (by omega) (by omega))) rfl (lp (eZ (5 + 2 * q) (5 + 2 * q) es_23 rfl rfl rfl (by omega) (by omega)) rfl (lp (aO rfl (bR (v := .int .u8 (eB o (5 + 2 * q))) k_5 (by rw [cell_list (hs.g 0 rfl)]; exact cellB (by omega)))) rfl (lp (bN rfl rfl (u8inc (eB o (5 + 2 * q)))) rfl (lp (eZ (5 + 2 * q) (5 + 2 * q) es_23 rfl rfl rfl (by omega) (by omega)) rfl (aJ (o_storeP (k := 0) hs k_5 rfl rfl rfl rfl rfl (by simp; omega) (setB1 (l := o) (a := UInt8.ofNat (eB o (5 + 2 * q) + 1)) (by omega)) rfl (fun w hs => ?_))))))))))))
 obtain ⟨o2, ho2, hl2⟩ : ∃ o2, o.set (5 + 2 * q) (UInt8.ofNat (eB o (5 + 2 * q) + 1)) = o2 ∧ o2.length = o.length := ⟨_, rfl, by simp⟩
 have hself : eB o2 (5 + 2 * q) = (UInt8.ofNat (eB o (5 + 2 * q) + 1)).toNat := by rw [← ho2]; exact byteAt_set (by omega)
 have hoth : ∀ j, j ≠ 5 + 2 * q → eB o2 j = eB o j := fun j hj => by rw [← ho2]; exact byteAt_set_ne hj
 rw [ho2] at hs
 refine aH (aF (dP (dM rfl rfl (dM rfl rfl (lp (po_mul rfl rfl (fV (c := 2 * q) (by omega) (by omega))) rfl (lp (bN rfl rfl (fV (c := 5 + 2 * q) (by omega) (by omega))) rfl (lp (eZ (5 + 2 * q) (5 + 2 * q) es_23 rfl rfl rfl (by omega) (by omega)) rfl (lp (aO rfl (bR (v := .int .u8 (eB o2 (5 + 2 * q))) k_5 (by rw [cell_list (hs.g 0 rfl)]; exact cellB (by omega)))) rfl (lp (bI rfl rfl) rfl (aH (bH rfl (fun hc3 => ?_) (fun hc3 => ?_))))))))))))
 refine dP (aZ ok_7 rfl rfl (c_packs (hG.mono hs.view) hs.isIn) rfl (fun v66 w HF => ?_))
 obtain ⟨rfl, VP, hc⟩ := HF
 replace hs := hs.frame hc
 refine dN rfl rfl (aH (aV ⟨_, fW rfl, ?_⟩))
 exact ⟨rfl, _, (hs.drop hgb).drop hb2⟩
 have hb256 := cU o (5 + 2 * q)
 have hinc : eB o2 (5 + 2 * q) = eB o (5 + 2 * q) + 1 := by rw [UInt8.toNat_ofNat'] at hself; omega
 refine aW (aF (dP (dM rfl rfl (lp (bN rfl rfl (fV (c := q + 1) (by omega) (by omega))) rfl (dN rfl rfl (aH (bQ (dC (fun k : Nat => eH (eH (eH (eH emp 7 (.int .i64 k)) 5 (.slice (some ⟨g, 0, none⟩) o.length cap)) 2 (.pointer (some ⟨b2, 0, none⟩))) 1 (.int .i64 q)) (fun k w => St ⟨w0, V, V⟩ w [(g, .cells (o2.map eA ++ sp).toArray 5 (0, 0)), (b2, .cells (fJ m.head ++ [Value.slice aq m.asks.length cq, .slice a1 m.answers.length c1, .slice a2 m.authorities.length c2, .slice a3 m.additionals.length c3]).toArray 36 (0, 0))] ∧ q < k ∧ k ≤ 4 ∧ ∀ i, q < i → i < k → eB o (4 + 2 * i) = 0 ∧ eB o (5 + 2 * i) = 0) (fun k => 4 - k) (q + 1) (aL rfl (aL rfl (aL rfl (aL rfl (bG _))))) ⟨hs, Nat.lt_succ_self _, by omega, fun i h1 h2 => absurd h1 (by omega)⟩ ?_))))))))
 clear hs
 rintro k w ⟨hs, hqk, hk4, hzz⟩
 refine aF (dP (dM rfl rfl (lp (cY rfl rfl) rfl (aH (bH rfl (fun hc4 => ?_) (fun hc4 => ?_))))))
 have hkl : k < 4 := by omega
 have e4 := hoth (4 + 2 * k) (by omega)
 have e5 := hoth (5 + 2 * k) (by omega)
 refine aW (aF (bQ (aF ?_)))
 rcases Classical.em (eB o2 (4 + 2 * k) = 0) with h4 | h4
 refine aB (dM rfl rfl (dM rfl rfl (lp (po_mul rfl rfl (fV (c := 2 * k) (by omega) (by omega))) rfl (lp (bN rfl rfl (fV (c := 4 + 2 * k) (by omega) (by omega))) rfl (lp (eZ (4 + 2 * k) (4 + 2 * k) es_23 rfl rfl rfl (by omega) (by omega)) rfl (lp (aO rfl (bR (v := .int .u8 (eB o2 (4 + 2 * k))) k_5 (by rw [cell_list (hs.g 0 rfl)]; exact cellB (by omega)))) rfl (lp (po_neqF rfl rfl (by omega)) rfl (dM rfl rfl (lg rfl rfl rfl (aC rfl) rfl (lg rfl rfl rfl (aC rfl) rfl (lg rfl rfl rfl (po_mul rfl rfl (fV (c := 2 * k) (by omega) (by omega))) rfl (lg rfl rfl rfl (bN rfl rfl (fV (c := 5 + 2 * k) (by omega) (by omega))) rfl (lg rfl rfl rfl (eZ (5 + 2 * k) (5 + 2 * k) es_23 rfl rfl rfl (by omega) (by omega)) rfl ?_)))))))))))))
 refine lg rfl rfl rfl (aO rfl (bR (v := .int .u8 (eB o2 (5 + 2 * k))) k_5 (by rw [cell_list (hs.g 0 rfl)]; exact cellB (by omega)))) rfl (lg rfl rfl rfl (po_neq rfl rfl) rfl (lp (bW rfl rfl rfl) rfl (aH (bH rfl (fun hc5 => ?_) (fun hc5 => ?_)))))
 refine dP (aZ ok_7 rfl rfl (c_packs (hG.mono hs.view) hs.isIn) rfl (fun v89 w HF => ?_))
 obtain ⟨rfl, VP, hc⟩ := HF
 replace hs := hs.frame hc
 refine dN rfl rfl (aH (aV ⟨_, fW rfl, ?_⟩))
 exact ⟨rfl, _, (hs.drop hgb).drop hb2⟩
 refine aW (aB (dM rfl rfl (lp (bN rfl rfl (fV (c := k + 1) (by omega) (by omega))) rfl (dN rfl rfl (aH ?_)))))
 exact ⟨k + 1, aL rfl (aL rfl (aL rfl (aL rfl (bG _)))), ⟨hs, by omega, hkl, fun i h1 h2 => by
  rcases Nat.lt_or_ge i k with h | h
  exact hzz i h1 h
  obtain rfl : i = k := by omega
  exact ⟨by omega, by omega⟩⟩, by omega⟩
 refine aB (dM rfl rfl (dM rfl rfl (lp (po_mul rfl rfl (fV (c := 2 * k) (by omega) (by omega))) rfl (lp (bN rfl rfl (fV (c := 4 + 2 * k) (by omega) (by omega))) rfl (lp (eZ (4 + 2 * k) (4 + 2 * k) es_23 rfl rfl rfl (by omega) (by omega)) rfl (lp (aO rfl (bR (v := .int .u8 (eB o2 (4 + 2 * k))) k_5 (by rw [cell_list (hs.g 0 rfl)]; exact cellB (by omega)))) rfl (lp (po_neqT rfl rfl (by omega)) rfl (dM rfl rfl (aU rfl rfl rfl rfl (aU rfl rfl rfl rfl (aU rfl rfl rfl rfl (aU rfl rfl rfl rfl (aU rfl rfl rfl rfl ?_)))))))))))))
 refine aU rfl rfl rfl rfl (aU rfl rfl rfl rfl (lp (bO rfl rfl rfl) rfl (aH (cO rfl rfl (dP (aZ ok_7 rfl rfl (c_packs (hG.mono hs.view) hs.isIn) rfl (fun v89 w HF => ?_)))))))
 obtain ⟨rfl, VP, hc⟩ := HF
 replace hs := hs.frame hc
 refine dN rfl rfl (aH (aV ⟨_, fW rfl, ?_⟩))
 exact ⟨rfl, _, (hs.drop hgb).drop hb2⟩
 have hk : k = 4 := by omega
 subst hk
 refine eT (aF ?_)
 obtain ⟨V1, hle1, hv1, hs1⟩ := St.give hs hgb
 clear hs
 have hs := hs1
 clear hs1
 have hRB : RB V1 (.slice (some ⟨g, 0, none⟩) o.length cap) o2 := by rw [← hl2]; exact RB.of_block hv1 (by omega)
 have hno := refused_bytes hpm hmfit.nq hmfit.na hmfit.nu hmfit.nd hq4 hl2 hoth hinc (fun i h1 h2 => hzz i h1 h2)
 refine aB (dM rfl rfl (aZ ok_8 rfl rfl (c_unpack (hG.mono hs.view) hs.isIn hRB (by omega)) rfl (fun v92 w HF => ?_)))
 obtain ⟨V2, mcs, ok, y, rfl, hc, hRM, hun⟩ := HF
 replace hs := hs.frame hc
 obtain ⟨rfl, _⟩ := hun.resolve_left (fun h => by rw [hno] at h; cases h.2)
 refine dM rfl rfl (dO rfl rfl rfl (dO rfl rfl rfl (aJ (aX hs z_36 rfl (fun b8 w hb8 he8 hs => aJ (dR 0 hs k_36 rfl rfl rfl hRM.flat.2 rfl hRM.flat.1 rfl (fun w hs => dN rfl rfl (aH (dP (dM rfl rfl (lp (cS rfl) rfl (dM rfl rfl (cX rfl rfl rfl (cF (cD rfl rfl ok_7 (c_packs (hG.mono hs.view) hs.isIn)) rfl (fun vP w HF => ?_)))))))))))))))
 obtain ⟨rfl, VP, hc⟩ := HF
 replace hs := hs.frame hc
 refine lp (bO rfl rfl rfl) rfl (dN rfl rfl (aH (aV ⟨_, fW rfl, ?_⟩)))
 exact ⟨rfl, _, (hs.drop hb8).drop hb2⟩
end
end Go.Proofs.YtgpfjlfkaoffeaaGreatDoor

/- The reference's packing: how large a message is, and whether its bytes are told. An argument that is a message: what its reading gives, and how large it can be. -/
import Derived.Test.YtgpfjlfkaoffeaaGreatDoorR30
import Derived.Test.YtgpfjlfkaoffeaaGreatDoorR25
import Derived.Deep.Slices
import Derived.Deep.Fields
set_option linter.all false
namespace Go.Proofs.YtgpfjlfkaoffeaaGreatDoor
open Go
def sizeR (r : fY) : Nat := r.name.length + r.host.length + r.box.length + r.data.length + 40 + (fE r.texts).length + (eX r.pairs).length
def sumT {α : Type} (f : α → Nat) (l : List α) (j : Nat) : Nat := ((l.take j).map f).sum
theorem sumT_succ {α : Type} {f : α → Nat} {l : List α} {j : Nat} (h : j < l.length) : sumT f l (j + 1) = sumT f l j + f l[j] := by
 unfold sumT
 rw [List.take_add_one, List.getElem?_eq_getElem h]
 simp only [Option.toList_some, List.map_append, List.map_cons, List.map_nil, List.sum_append, List.sum_cons, List.sum_nil, Nat.add_zero]
theorem sumT_le {α : Type} (f : α → Nat) (l : List α) (j : Nat) : sumT f l j ≤ sumT f l l.length := by
 unfold sumT
 have h : l.take l.length = l.take j ++ l.drop j := by rw [List.take_length, List.take_append_drop]
 rw [h, List.map_append, List.sum_append]; omega
def sizeL (l : List fY) : Nat := sumT sizeR l l.length
def askS (a : PAsk) : Nat := a.name.length + 6
def sizeM (m : PMess) : Nat := 12 + sumT askS m.asks m.asks.length + sizeL m.answers + sizeL m.authorities + sizeL m.additionals
def partM3 (m : PMess) (i : Nat) : Nat := 12 + sumT askS m.asks m.asks.length + (([sizeL m.answers, sizeL m.authorities, sizeL m.additionals].take i).sum)
theorem list3 {V : Vw} {m : PMess} {v1 v2 v3 : Value} (hA : RRecsK V v1 m.answers) (hU : RRecsK V v2 m.authorities) (hD : RRecsK V v3 m.additionals) {i : Nat} (h : i < 3) :
  ∃ lv l, [v1, v2, v3][i]? = some lv ∧ RRecsK V lv l ∧ partM3 m (i + 1) = partM3 m i + sizeL l ∧ partM3 m (i + 1) ≤ sizeM m := by
 have : i = 0 ∨ i = 1 ∨ i = 2 := by omega
 rcases this with rfl | rfl | rfl
 exact ⟨v1, m.answers, rfl, hA, by simp [partM3], by simp [partM3, sizeM]; omega⟩
 exact ⟨v2, m.authorities, rfl, hU, by simp [partM3]; omega, by simp [partM3, sizeM]; omega⟩
 exact ⟨v3, m.additionals, rfl, hD, by simp [partM3]; omega, by simp [partM3, sizeM]; omega⟩
theorem partM3_end (m : PMess) : partM3 m 3 = sizeM m := by simp only [partM3, sizeM, List.take, List.sum_cons, List.sum_nil]; omega
theorem textsP_len1 {l : List (List UInt8)} {j : Nat} (h : j < l.length) : (fE (l.take (j + 1))).length = (fE (l.take j)).length + (l[j].length + 1) := by
 rw [textsP_next h]; simp
theorem pairsP_len1 {l : List fU} {j : Nat} (h : j < l.length) : (eX (l.take (j + 1))).length = (eX (l.take j)).length + (l[j].data.length + 4) := by
 rw [pairsP_next h]; simp only [List.length_append, eP]; omega
theorem asks_cnt (l : List PAsk) : l.length ≤ sumT askS l l.length := by
 unfold sumT
 rw [List.take_length]
 induction l with
 | nil => exact Nat.le_refl _
 | cons a l ih => simp only [List.map_cons, List.sum_cons, List.length_cons, askS] at ih ⊢; omega
theorem recs_cnt (l : List fY) : l.length ≤ sizeL l := by
 unfold sizeL sumT
 rw [List.take_length]
 induction l with
 | nil => exact Nat.le_refl _
 | cons a l ih =>
  have : 40 ≤ sizeR a := by unfold sizeR; omega
  simp only [List.map_cons, List.sum_cons, List.length_cons]
  omega
section
variable {P : Program} {ρ : Env} {w : World}
theorem po_leqT {T T' : TypeId} {x y : Operand} {k : IntKind} {a b : Int} (hx : ev ρ x = some (.int k a)) (hy : ev ρ y = some (.int k b)) (h : a ≤ b) : PO P (.binOp .leq T x y T') ρ w (.bool true) := by
 have q := po_leq (P := P) (w := w) (T := T) (T' := T') hx hy
 rwa [decide_eq_true h] at q
theorem po_leqF {T T' : TypeId} {x y : Operand} {k : IntKind} {a b : Int} (hx : ev ρ x = some (.int k a)) (hy : ev ρ y = some (.int k b)) (h : ¬ a ≤ b) : PO P (.binOp .leq T x y T') ρ w (.bool false) := by
 have q := po_leq (P := P) (w := w) (T := T) (T' := T') hx hy
 rwa [decide_eq_false h] at q
end
section
variable {V : Vw} {w0 : World} {m : PMess} {va v1 v2 v3 : Value}
set_option maxHeartbeats 16000000 in
theorem n_Size (hV : V.In w0) (hQ : RAsksW V va m.asks) (hA : RRecsK V v1 m.answers) (hU : RRecsK V v2 m.authorities) (hD : RRecsK V v3 m.additionals) (hsz : sizeM m ≤ 4611686018427387904) :
  eC Tryz.prog 23 #[.agg (fJ m.head ++ [va, v1, v2, v3]).toArray] w0 fun v w' => v = .int .i64 (sizeM m : Nat) ∧ St ⟨w0, V, V⟩ w' [] := by
 obtain ⟨a1, c1, rfl⟩ := hA.form
 obtain ⟨a2, c2, rfl⟩ := hU.form
 obtain ⟨a3, c3, rfl⟩ := hD.form
 obtain ⟨xs, hS, hRw⟩ := hQ
 obtain ⟨aq, cq, rfl, _, hcq⟩ := hS.form
 have hs := St.start hV
 refine aT [_] Tryz.func23 Tryz.ntmps23 Tryz.results23 rfl rfl (dP (aJ (cR hs rfl rfl rfl (fun b1 w hb1 hbe1 hs => dN rfl rfl (aH (dP (dN rfl rfl (aH (aF (dP (lp (aR fo_36_1 rfl) rfl (lp (aO rfl (cT (a := fJ m.head) (i := 0) k_34 (hs.g 0 rfl) rfl rfl rfl)) rfl (lp (bC Tryz.underlying34 rfl) rfl (dM rfl rfl ?_))))))))))))))
 refine aH (bQ (dC (fun j : Nat => eH (eH (eH (eH (eH emp 17 (.int .i64 j)) 16 (.int .i64 m.asks.length)) 15 (.slice aq m.asks.length cq)) 3 (.int .i64 (12 + sumT askS m.asks j : Nat))) 1 (.pointer (some ⟨b1, 0, none⟩))) (fun j w => St ⟨w0, V, V⟩ w [(b1, .cells (fJ m.head ++ [Value.slice aq m.asks.length cq, .slice a1 m.answers.length c1, .slice a2 m.authorities.length c2, .slice a3 m.additionals.length c3]).toArray 36 (0, 0))] ∧ j ≤ m.asks.length) (fun j => m.asks.length - j) 0 (aL rfl (aL rfl (aL rfl (aL rfl (aL rfl (bG _)))))) ⟨hs, Nat.zero_le _⟩ ?_))
 clear hs
 rintro j w ⟨hs, hj⟩
 refine dP (lp (cY rfl rfl) rfl (aH (aF (bH rfl (fun hc0 => ?_) (fun hc0 => ?_)))))
 have hjl : j < m.asks.length := by omega
 obtain ⟨b, p, rfl, hcells⟩ := hcq (by omega)
 obtain ⟨cr, rfl, hcl, hctt⟩ := hRw.at (List.getElem?_eq_getElem hjl)
 have hq1 := sumT_succ (f := askS) hjl
 have hq2 := sumT_le askS m.asks (j + 1)
 have hq3 : askS m.asks[j] = m.asks[j].name.length + 6 := rfl
 have hq5 := asks_cnt m.asks
 have hq4 : 12 + sumT askS m.asks m.asks.length ≤ sizeM m := by unfold sizeM; omega
 refine aW (aF (bQ (dP (lp (eZ j (p + j * 3) es_34 rfl rfl rfl hjl rfl) rfl ?_))))
 refine lp (aO rfl (ld_cells (l := askC m.asks[j]) k_77 rfl (fun i u hu => by
  rw [Nat.add_assoc]
  exact Vw.cell_in hs.isIn (hcells _ _ (fN hctt hu))))) rfl ?_
 refine aJ (aX hs z_77 rfl (fun b5 w hb5 he5 hs => aJ (dR 0 hs k_77 rfl rfl rfl rfl rfl (askC_flat _) rfl (fun w hs => aH (aB (dM rfl rfl (lp (aR fo_77_0 rfl) rfl (lp (aO rfl (aQ k_9 (hs.g 0 rfl) rfl)) rfl (lp (po_lenS Tryz.underlying9 rfl) rfl (lp (bN rfl rfl (fV (c := askS m.asks[j]) (by omega) (by omega))) rfl (lp (bN rfl rfl (fV (c := 12 + sumT askS m.asks (j + 1)) (by omega) (by omega))) rfl (dN rfl rfl (aH (aB (lp (bN rfl rfl (fV (c := j + 1) (by omega) (by omega))) rfl ?_)))))))))))))))
 refine dM rfl rfl (aH ?_)
 exact ⟨j + 1, (aL rfl (aL rfl (aL rfl (aL rfl (aL rfl (bG _)))))), ⟨hs.drop hb5, hjl⟩, by omega⟩
 have hjn : j = m.asks.length := by omega
 subst hjn
 refine eT (aF (dP (lp (aR fo_36_2 rfl) rfl (lp (aO rfl (cT (a := fJ m.head) (i := 1) k_31 (hs.g 0 rfl) rfl rfl rfl)) rfl (lp (aR fo_36_3 rfl) rfl (lp (aO rfl (cT (a := fJ m.head) (i := 2) k_31 (hs.g 0 rfl) rfl rfl rfl)) rfl (lp (aR fo_36_4 rfl) rfl (lp (aO rfl (cT (a := fJ m.head) (i := 3) k_31 (hs.g 0 rfl) rfl rfl rfl)) rfl (aJ (o_bslice (vls := [[.slice a1 m.answers.length c1], [.slice a2 m.authorities.length c2], [.slice a3 m.additionals.length c3]]) el_120 hs rfl rfl rfl rfl (by simp) (by decide) (by decide) rfl (fun b34 w hb34 he34 hs => ?_)))))))))))
 replace hs : St ⟨w0, V, V⟩ w [(b34, .cells [Value.slice a1 m.answers.length c1, .slice a2 m.authorities.length c2, .slice a3 m.additionals.length c3].toArray 31 (0, 0)), (b1, .cells (fJ m.head ++ [Value.slice aq m.asks.length cq, .slice a1 m.answers.length c1, .slice a2 m.authorities.length c2, .slice a3 m.additionals.length c3]).toArray 36 (0, 0))] := hs
 refine lp (bC Tryz.underlying120 rfl) rfl (dM rfl rfl (aH (bQ (dC (fun i : Nat => eH (eH (eH (eH (eH emp 36 (.int .i64 i)) 35 (.int .i64 (3 : Nat))) 34 (.slice (some ⟨b34, 0, none⟩) 3 3)) 3 (.int .i64 (partM3 m i : Nat))) 1 (.pointer (some ⟨b1, 0, none⟩))) (fun i w => St ⟨w0, V, V⟩ w [(b34, .cells [Value.slice a1 m.answers.length c1, .slice a2 m.authorities.length c2, .slice a3 m.additionals.length c3].toArray 31 (0, 0)), (b1, .cells (fJ m.head ++ [Value.slice aq m.asks.length cq, .slice a1 m.answers.length c1, .slice a2 m.authorities.length c2, .slice a3 m.additionals.length c3]).toArray 36 (0, 0))] ∧ i ≤ 3) (fun i => 3 - i) 0 (aL rfl (aL rfl (aL rfl (aL rfl (aL rfl (bG _)))))) ⟨hs, Nat.zero_le _⟩ ?_))))
 clear hs
 rintro i w ⟨hs, hi⟩
 refine dP (lp (cY rfl rfl) rfl (aH (aF (bH rfl (fun hc1 => ?_) (fun hc1 => ?_)))))
 have hil : i < 3 := by omega
 obtain ⟨lv, l, hlv, hRl, hsum, hmax⟩ := list3 hA hU hD hil
 obtain ⟨xl, hSl, hRwl⟩ := hRl
 obtain ⟨al, cl, rfl, _, hcl⟩ := hSl.form
 have hln : l.length ≤ sizeL l := recs_cnt l
 refine aW (aF (bQ (dP (lp (eZ i i es_120 rfl rfl rfl hil (by omega)) rfl (lp (aO rfl (bR (v := .slice al l.length cl) k_31 (by rw [cell_list (hs.g 0 rfl)]; exact hlv))) rfl (dN rfl rfl (aH (dP (dM rfl rfl (lp (bC Tryz.underlying31 rfl) rfl (dM rfl rfl (aH (bQ ?_)))))))))))))
 refine dC (fun j : Nat => eH (eH (eH (eH (eH (eH (eH (eH emp 42 (.int .i64 j)) 41 (.int .i64 l.length)) 40 (.slice al l.length cl)) 3 (.int .i64 (partM3 m i + sumT sizeR l j : Nat))) 36 (.int .i64 i)) 35 (.int .i64 (3 : Nat))) 34 (.slice (some ⟨b34, 0, none⟩) 3 3)) 1 (.pointer (some ⟨b1, 0, none⟩))) (fun j w => St ⟨w0, V, V⟩ w [(b34, .cells [Value.slice a1 m.answers.length c1, .slice a2 m.authorities.length c2, .slice a3 m.additionals.length c3].toArray 31 (0, 0)), (b1, .cells (fJ m.head ++ [Value.slice aq m.asks.length cq, .slice a1 m.answers.length c1, .slice a2 m.authorities.length c2, .slice a3 m.additionals.length c3]).toArray 36 (0, 0))] ∧ j ≤ l.length) (fun j => l.length - j) 0 (aL rfl (aL rfl (aL rfl (aL rfl (aL rfl (aL rfl (aL rfl (aL rfl (bG _))))))))) ⟨hs, Nat.zero_le _⟩ ?_
 clear hs
 rintro j w ⟨hs, hj⟩
 refine dP (lp (cY rfl rfl) rfl (aH (aF (bH rfl (fun hc2 => ?_) (fun hc2 => ?_)))))
 have hjl : j < l.length := by omega
 obtain ⟨b, p, rfl, hcells⟩ := hcl (by omega)
 obtain ⟨cr, ⟨k, vd, vt, vp, rfl, hkd, hDd, hTt, hPp⟩, hcll, hctt⟩ := hRwl.at (List.getElem?_eq_getElem hjl)
 have hflat := (RRecK.flat (V := V) ⟨k, vd, vt, vp, rfl, hkd, hDd, hTt, hPp⟩).1
 obtain ⟨ad, cd, rfl, _⟩ := SlW.form hDd
 obtain ⟨at1, ct, rfl, _, hct⟩ := SlW.form hTt
 obtain ⟨ys, hSP, hRP⟩ := hPp
 obtain ⟨ap, cp, rfl, _, hcp⟩ := hSP.form
 have hq1 := sumT_succ (f := sizeR) hjl
 have hq2 : sumT sizeR l (j + 1) ≤ sizeL l := sumT_le sizeR l (j + 1)
 have hq3 : sizeR l[j] = l[j].name.length + l[j].host.length + l[j].box.length + l[j].data.length + 40 + (fE l[j].texts).length + (eX l[j].pairs).length := rfl
 have htc := textsP_cnt l[j].texts
 have hpc := pairsP_cnt l[j].pairs
 refine aW (aF (bQ (dP (lp (eZ j (p + j * 16) es_31 rfl rfl rfl hjl rfl) rfl ?_))))
 refine lp (aO rfl (ld_cells (l := recK l[j] k (.slice ad l[j].data.length cd) (.slice at1 l[j].texts.length ct) (.slice ap l[j].pairs.length cp)) eJ rfl (fun i u hu => by
  rw [Nat.add_assoc]
  exact Vw.cell_in hs.isIn (hcells _ _ (fN hctt hu))))) rfl ?_
 refine aJ (aX hs z_30 rfl (fun b9 w hb9 he9 hs => aJ (dR 0 hs eJ rfl rfl rfl rfl rfl hflat rfl (fun w hs => ?_))))
 obtain ⟨rc, hrc, hs⟩ : ∃ rc, rc = recK l[j] k (.slice ad l[j].data.length cd) (.slice at1 l[j].texts.length ct) (.slice ap l[j].pairs.length cp) ∧ St ⟨w0, V, V⟩ w [(b9, .cells rc.toArray 30 (0, 0)), (b34, .cells [Value.slice a1 m.answers.length c1, .slice a2 m.authorities.length c2, .slice a3 m.additionals.length c3].toArray 31 (0, 0)), (b1, .cells (fJ m.head ++ [Value.slice aq m.asks.length cq, .slice a1 m.answers.length c1, .slice a2 m.authorities.length c2, .slice a3 m.additionals.length c3]).toArray 36 (0, 0))] := ⟨_, rfl, hs⟩
 refine aH (dP (dM rfl rfl (lp (aR fo_30_0 rfl) rfl (lp (aO rfl (aQ k_9 (hs.g 0 rfl) (by rw [hrc]; rfl))) rfl (lp (po_lenS Tryz.underlying9 rfl) rfl (lp (aR fo_30_7 rfl) rfl (lp (aO rfl (aQ k_9 (hs.g 0 rfl) (by rw [hrc]; rfl))) rfl (lp (po_lenS Tryz.underlying9 rfl) rfl (lp (bN rfl rfl (fV (c := l[j].name.length + l[j].host.length) (by omega) (by omega))) rfl (lp (aR fo_30_8 rfl) rfl (lp (aO rfl (aQ k_9 (hs.g 0 rfl) (by rw [hrc]; rfl))) rfl (lp (po_lenS Tryz.underlying9 rfl) rfl (lp (bN rfl rfl (fV (c := l[j].name.length + l[j].host.length + l[j].box.length) (by omega) (by omega))) rfl ?_)))))))))))))
 refine lp (aR fo_30_6 rfl) rfl (lp (aO rfl (aQ k_23 (hs.g 0 rfl) (by rw [hrc]; rfl))) rfl (lp (bC Tryz.underlying23 rfl) rfl (lp (bN rfl rfl (fV (c := l[j].name.length + l[j].host.length + l[j].box.length + l[j].data.length) (by omega) (by omega))) rfl (lp (bN rfl rfl (fV (c := l[j].name.length + l[j].host.length + l[j].box.length + l[j].data.length + 40) (by omega) (by omega))) rfl (lp (bN rfl rfl (fV (c := partM3 m i + sumT sizeR l j + (l[j].name.length + l[j].host.length + l[j].box.length + l[j].data.length + 40)) (by omega) (by omega))) rfl (dN rfl rfl (aH (aF (dP (lp (aR fo_30_14 rfl) rfl (lp (aO rfl (aQ k_28 (hs.g 0 rfl) (by rw [hrc]; rfl))) rfl (lp (bC Tryz.underlying28 rfl) rfl (dM rfl rfl ?_)))))))))))))
 refine aH (bQ (dC (fun t : Nat => eH (eH (eH (eH (eH (eH (eH (eH (eH (eH (eH (eH emp 67 (.int .i64 t)) 66 (.int .i64 l[j].texts.length)) 65 (.slice at1 l[j].texts.length ct)) 3 (.int .i64 (partM3 m i + sumT sizeR l j + (l[j].name.length + l[j].host.length + l[j].box.length + l[j].data.length + 40) + (fE (l[j].texts.take t)).length : Nat))) 42 (.int .i64 j)) 41 (.int .i64 l.length)) 40 (.slice (some ⟨b, p, none⟩) l.length cl)) 9 (.pointer (some ⟨b9, 0, none⟩))) 36 (.int .i64 i)) 35 (.int .i64 (3 : Nat))) 34 (.slice (some ⟨b34, 0, none⟩) 3 3)) 1 (.pointer (some ⟨b1, 0, none⟩))) (fun t w => St ⟨w0, V, V⟩ w [(b9, .cells rc.toArray 30 (0, 0)), (b34, .cells [Value.slice a1 m.answers.length c1, .slice a2 m.authorities.length c2, .slice a3 m.additionals.length c3].toArray 31 (0, 0)), (b1, .cells (fJ m.head ++ [Value.slice aq m.asks.length cq, .slice a1 m.answers.length c1, .slice a2 m.authorities.length c2, .slice a3 m.additionals.length c3]).toArray 36 (0, 0))] ∧ t ≤ l[j].texts.length) (fun t => l[j].texts.length - t) 0 (aL rfl (aL rfl (aL rfl (aL rfl (aL rfl (aL rfl (aL rfl (aL rfl (aL rfl (aL rfl (aL rfl (aL rfl (bG _))))))))))))) ⟨hs, Nat.zero_le _⟩ ?_))
 clear hs
 rintro t w ⟨hs, ht⟩
 have htl := textsP_le l[j].texts (t + 1)
 refine dP (lp (cY rfl rfl) rfl (aH (aF (bH rfl (fun hc3 => ?_) (fun hc3 => ?_)))))
 have hjt : t < l[j].texts.length := by omega
 obtain ⟨bt, pt, hat, hctx⟩ := hct (by omega)
 have hp1 := textsP_len1 hjt
 refine aW (aF (bQ (dP (lp (eZ t (pt + t) es_28 (by rw [← hat]; rfl) rfl rfl hjt (by omega)) rfl (lp (aO rfl (bR (v := fR l[j].texts[t]) k_9 (Vw.cell_in hs.isIn (hctx t _ (by simp [hjt]))))) rfl (dN rfl rfl (aH (aB (dM rfl rfl (dM rfl rfl (lp (po_lenS Tryz.underlying9 rfl) rfl (lp (bN rfl rfl (fV (c := l[j].texts[t].length + 1) (by omega) (by omega))) rfl (lp (bN rfl rfl (fV (c := partM3 m i + sumT sizeR l j + (l[j].name.length + l[j].host.length + l[j].box.length + l[j].data.length + 40) + (fE (l[j].texts.take (t + 1))).length) (by omega) (by omega))) rfl ?_)))))))))))))
 refine dN rfl rfl (aH (aB (lp (bN rfl rfl (fV (c := t + 1) (by omega) (by omega))) rfl (dM rfl rfl (aH ?_)))))
 exact ⟨t + 1, (aL rfl (aL rfl (aL rfl (aL rfl (aL rfl (aL rfl (aL rfl (aL rfl (aL rfl (aL rfl (aL rfl (aL rfl (bG _))))))))))))), ⟨hs, hjt⟩, by omega⟩
 have hjn : t = l[j].texts.length := by omega
 subst hjn
 have htt : (fE (l[j].texts.take l[j].texts.length)).length = (fE l[j].texts).length := by rw [List.take_length]
 refine eT (dP (lp (aR fo_30_15 rfl) rfl (lp (aO rfl (aQ k_26 (hs.g 0 rfl) (by rw [hrc]; rfl))) rfl (lp (bC Tryz.underlying26 rfl) rfl (dM rfl rfl (aH (bQ (dC (fun t : Nat => eH (eH (eH (eH (eH (eH (eH (eH (eH (eH (eH (eH emp 80 (.int .i64 t)) 79 (.int .i64 l[j].pairs.length)) 78 (.slice ap l[j].pairs.length cp)) 3 (.int .i64 (partM3 m i + sumT sizeR l j + (l[j].name.length + l[j].host.length + l[j].box.length + l[j].data.length + 40) + (fE l[j].texts).length + (eX (l[j].pairs.take t)).length : Nat))) 42 (.int .i64 j)) 41 (.int .i64 l.length)) 40 (.slice (some ⟨b, p, none⟩) l.length cl)) 9 (.pointer (some ⟨b9, 0, none⟩))) 36 (.int .i64 i)) 35 (.int .i64 (3 : Nat))) 34 (.slice (some ⟨b34, 0, none⟩) 3 3)) 1 (.pointer (some ⟨b1, 0, none⟩))) (fun t w => St ⟨w0, V, V⟩ w [(b9, .cells rc.toArray 30 (0, 0)), (b34, .cells [Value.slice a1 m.answers.length c1, .slice a2 m.authorities.length c2, .slice a3 m.additionals.length c3].toArray 31 (0, 0)), (b1, .cells (fJ m.head ++ [Value.slice aq m.asks.length cq, .slice a1 m.answers.length c1, .slice a2 m.authorities.length c2, .slice a3 m.additionals.length c3]).toArray 36 (0, 0))] ∧ t ≤ l[j].pairs.length) (fun t => l[j].pairs.length - t) 0 (aL rfl (aL rfl (aL rfl (aL rfl (aL rfl (aL rfl (aL rfl (aL rfl (aL (by rw [← htt]; rfl) (aL rfl (aL rfl (aL rfl (bG _))))))))))))) ⟨hs, Nat.zero_le _⟩ ?_))))))))
 clear hs
 rintro t w ⟨hs, ht⟩
 have htl := pairsP_le l[j].pairs (t + 1)
 refine dP (lp (cY rfl rfl) rfl (aH (aF (bH rfl (fun hc4 => ?_) (fun hc4 => ?_)))))
 have hjt : t < l[j].pairs.length := by omega
 obtain ⟨bt, pt, hat, hctx⟩ := hcp (by omega)
 obtain ⟨cq2, ⟨vq, rfl, hRB⟩, hcl2, hctt2⟩ := hRP.at (List.getElem?_eq_getElem hjt)
 obtain ⟨ad2, cd2, rfl, _⟩ := SlW.form hRB
 have hp1 := pairsP_len1 hjt
 refine aW (aF (bQ (dP (lp (eZ t (pt + t * 2) es_26 (by rw [← hat]; rfl) rfl rfl hjt rfl) rfl ?_))))
 refine lp (aO rfl (ld_cells (l := [.int .u16 l[j].pairs[t].key, .slice ad2 l[j].pairs[t].data.length cd2]) k_25 rfl (fun i u hu => by
  rw [Nat.add_assoc]
  exact Vw.cell_in hs.isIn (hctx _ _ (fN hctt2 hu))))) rfl ?_
 refine aJ (aX hs z_25 rfl (fun b13 w hb13 he13 hs => aJ (dR 0 hs k_25 rfl rfl rfl rfl rfl (aG rfl) rfl (fun w hs => aH (aB (dM rfl rfl (lp (aR fo_25_1 rfl) rfl (lp (aO rfl (aQ k_23 (hs.g 0 rfl) rfl)) rfl (lp (bC Tryz.underlying23 rfl) rfl (lp (bN rfl rfl (fV (c := l[j].pairs[t].data.length + 4) (by omega) (by omega))) rfl (lp (bN rfl rfl (fV (c := partM3 m i + sumT sizeR l j + (l[j].name.length + l[j].host.length + l[j].box.length + l[j].data.length + 40) + (fE l[j].texts).length + (eX (l[j].pairs.take (t + 1))).length) (by omega) (by omega))) rfl (dN rfl rfl (aH (aB (lp (bN rfl rfl (fV (c := t + 1) (by omega) (by omega))) rfl ?_)))))))))))))))
 refine dM rfl rfl (aH ?_)
 exact ⟨t + 1, (aL rfl (aL rfl (aL rfl (aL rfl (aL rfl (aL rfl (aL rfl (aL rfl (aL rfl (aL rfl (aL rfl (aL rfl (bG _))))))))))))), ⟨hs.drop hb13, hjt⟩, by omega⟩
 have hjn : t = l[j].pairs.length := by omega
 subst hjn
 have hpp : (eX (l[j].pairs.take l[j].pairs.length)).length = (eX l[j].pairs).length := by rw [List.take_length]
 refine eT (aB (lp (bN rfl rfl (fV (c := j + 1) (by omega) (by omega))) rfl (dM rfl rfl (aH ?_))))
 have htot : partM3 m i + sumT sizeR l j + (l[j].name.length + l[j].host.length + l[j].box.length + l[j].data.length + 40) + (fE l[j].texts).length + (eX (l[j].pairs.take l[j].pairs.length)).length = partM3 m i + sumT sizeR l (j + 1) := by omega
 exact ⟨j + 1, (aL rfl (aL rfl (aL rfl (aL rfl (aL (by rw [← htot]; rfl) (aL rfl (aL rfl (aL rfl (bG _))))))))), ⟨hs.drop hb9, hjl⟩, by omega⟩
 have hjn : j = l.length := by omega
 subst hjn
 refine eT (aB (lp (bN rfl rfl (fV (c := i + 1) (by omega) (by omega))) rfl (dM rfl rfl (aH ?_))))
 have htot : partM3 m i + sumT sizeR l l.length = partM3 m (i + 1) := hsum.symm
 exact ⟨i + 1, (aL rfl (aL (by rw [← htot]; rfl) (aL rfl (aL rfl (aL rfl (bG _)))))), ⟨hs, hil⟩, by omega⟩
 have hi3 : i = 3 := by omega
 subst hi3
 refine eT (dP (dM rfl rfl (dN rfl rfl (aH (aV ⟨_, fW rfl, ?_⟩)))))
 exact ⟨by rw [partM3_end], (hs.drop hb34).drop hb1⟩
set_option maxHeartbeats 8000000 in
theorem n_Packable (hV : V.In w0) (hQ : RAsksW V va m.asks) (hA : RRecsK V v1 m.answers) (hU : RRecsK V v2 m.authorities) (hD : RRecsK V v3 m.additionals) (hsz : sizeM m ≤ 4611686018427387904) :
  eC Tryz.prog 10 #[.agg (fJ m.head ++ [va, v1, v2, v3]).toArray] w0 fun v w' => v = .bool (decide ((m.asks.length ≤ 65535 ∧ m.answers.length ≤ 65535 ∧ m.authorities.length ≤ 65535 ∧ m.additionals.length ≤ 65535) ∧ m.head.op ≤ 15 ∧ m.head.code ≤ 15 ∧ sizeM m ≤ 60000)) ∧ St ⟨w0, V, V⟩ w' [] := by
 obtain ⟨a1, c1, rfl⟩ := hA.form
 obtain ⟨a2, c2, rfl⟩ := hU.form
 obtain ⟨a3, c3, rfl⟩ := hD.form
 obtain ⟨aq, cq, rfl⟩ : ∃ a c, va = .slice a m.asks.length c := by
  obtain ⟨xs, hS, _⟩ := hQ
  obtain ⟨a, c, h1, _⟩ := hS.form
  exact ⟨a, c, h1⟩
 have hs := St.start hV
 refine aT [_] Tryz.func10 Tryz.ntmps10 Tryz.results10 rfl rfl (dP (aJ (cR hs rfl rfl rfl (fun b1 w hb1 hbe1 hs => ?_))))
 replace hs : St ⟨w0, V, V⟩ w [(b1, .cells (fJ m.head ++ [Value.slice aq m.asks.length cq, .slice a1 m.answers.length c1, .slice a2 m.authorities.length c2, .slice a3 m.additionals.length c3]).toArray 36 (0, 0))] := hs
 refine dN rfl rfl (aH (dG (fun ρ w2 => w = w2 ∧ Sub (eH (eH emp 3 (.bool (decide (m.asks.length ≤ 65535 ∧ m.answers.length ≤ 65535 ∧ m.authorities.length ≤ 65535 ∧ m.additionals.length ≤ 65535)))) 1 (.pointer (some ⟨b1, 0, none⟩))) ρ) ?_ ?_))
 rcases (by omega : 65535 < m.asks.length ∨ (m.asks.length ≤ 65535 ∧ 65535 < m.answers.length) ∨ (m.asks.length ≤ 65535 ∧ m.answers.length ≤ 65535 ∧ 65535 < m.authorities.length) ∨ (m.asks.length ≤ 65535 ∧ m.answers.length ≤ 65535 ∧ m.authorities.length ≤ 65535)) with h1 | ⟨h1, h2⟩ | ⟨h1, h2, h3⟩ | ⟨h1, h2, h3⟩
 refine aB (lp (aR fo_36_1 rfl) rfl (lp (aO rfl (cT (a := fJ m.head) (i := 0) k_34 (hs.g 0 rfl) rfl rfl rfl)) rfl (lp (bC Tryz.underlying34 rfl) rfl (lp (po_leqF rfl rfl (by omega)) rfl (dM rfl rfl (aU rfl rfl rfl rfl (aU rfl rfl rfl rfl (aU rfl rfl rfl rfl (aU rfl rfl rfl rfl (lp (bW rfl rfl rfl) rfl (dM rfl rfl (aU rfl rfl rfl rfl (aU rfl rfl rfl rfl ?_)))))))))))))
 refine aU rfl rfl rfl rfl (aU rfl rfl rfl rfl (lp (bW rfl rfl rfl) rfl (dM rfl rfl (aU rfl rfl rfl rfl (aU rfl rfl rfl rfl (aU rfl rfl rfl rfl (aU rfl rfl rfl rfl (lp (bW rfl rfl rfl) rfl (dN rfl rfl (aH ?_))))))))))
 exact ⟨rfl, aL rfl (aL (by rw [show decide (m.asks.length ≤ 65535 ∧ m.answers.length ≤ 65535 ∧ m.authorities.length ≤ 65535 ∧ m.additionals.length ≤ 65535) = false from decide_eq_false (by omega)]; rfl) (bG _))⟩
 refine aB (lp (aR fo_36_1 rfl) rfl (lp (aO rfl (cT (a := fJ m.head) (i := 0) k_34 (hs.g 0 rfl) rfl rfl rfl)) rfl (lp (bC Tryz.underlying34 rfl) rfl (lp (po_leqT rfl rfl (by omega)) rfl (dM rfl rfl (lg rfl rfl rfl (aR fo_36_2 rfl) rfl (lg rfl rfl rfl (aO rfl (cT (a := fJ m.head) (i := 1) k_31 (hs.g 0 rfl) rfl rfl rfl)) rfl (lg rfl rfl rfl (bC Tryz.underlying31 rfl) rfl (lg rfl rfl rfl (po_leqF rfl rfl (by omega)) rfl (lp (bO rfl rfl rfl) rfl (dM rfl rfl (aU rfl rfl rfl rfl (aU rfl rfl rfl rfl ?_)))))))))))))
 refine aU rfl rfl rfl rfl (aU rfl rfl rfl rfl (lp (bW rfl rfl rfl) rfl (dM rfl rfl (aU rfl rfl rfl rfl (aU rfl rfl rfl rfl (aU rfl rfl rfl rfl (aU rfl rfl rfl rfl (lp (bW rfl rfl rfl) rfl (dN rfl rfl (aH ?_))))))))))
 exact ⟨rfl, aL rfl (aL (by rw [show decide (m.asks.length ≤ 65535 ∧ m.answers.length ≤ 65535 ∧ m.authorities.length ≤ 65535 ∧ m.additionals.length ≤ 65535) = false from decide_eq_false (by omega)]; rfl) (bG _))⟩
 refine aB (lp (aR fo_36_1 rfl) rfl (lp (aO rfl (cT (a := fJ m.head) (i := 0) k_34 (hs.g 0 rfl) rfl rfl rfl)) rfl (lp (bC Tryz.underlying34 rfl) rfl (lp (po_leqT rfl rfl (by omega)) rfl (dM rfl rfl (lg rfl rfl rfl (aR fo_36_2 rfl) rfl (lg rfl rfl rfl (aO rfl (cT (a := fJ m.head) (i := 1) k_31 (hs.g 0 rfl) rfl rfl rfl)) rfl (lg rfl rfl rfl (bC Tryz.underlying31 rfl) rfl (lg rfl rfl rfl (po_leqT rfl rfl (by omega)) rfl (lp (bO rfl rfl rfl) rfl (dM rfl rfl (lg rfl rfl rfl (aR fo_36_3 rfl) rfl (lg rfl rfl rfl (aO rfl (cT (a := fJ m.head) (i := 2) k_31 (hs.g 0 rfl) rfl rfl rfl)) rfl ?_)))))))))))))
 refine lg rfl rfl rfl (bC Tryz.underlying31 rfl) rfl (lg rfl rfl rfl (po_leqF rfl rfl (by omega)) rfl (lp (bO rfl rfl rfl) rfl (dM rfl rfl (aU rfl rfl rfl rfl (aU rfl rfl rfl rfl (aU rfl rfl rfl rfl (aU rfl rfl rfl rfl (lp (bW rfl rfl rfl) rfl (dN rfl rfl (aH ?_))))))))))
 exact ⟨rfl, aL rfl (aL (by rw [show decide (m.asks.length ≤ 65535 ∧ m.answers.length ≤ 65535 ∧ m.authorities.length ≤ 65535 ∧ m.additionals.length ≤ 65535) = false from decide_eq_false (by omega)]; rfl) (bG _))⟩
 refine aB (lp (aR fo_36_1 rfl) rfl (lp (aO rfl (cT (a := fJ m.head) (i := 0) k_34 (hs.g 0 rfl) rfl rfl rfl)) rfl (lp (bC Tryz.underlying34 rfl) rfl (lp (po_leqT rfl rfl (by omega)) rfl (dM rfl rfl (lg rfl rfl rfl (aR fo_36_2 rfl) rfl (lg rfl rfl rfl (aO rfl (cT (a := fJ m.head) (i := 1) k_31 (hs.g 0 rfl) rfl rfl rfl)) rfl (lg rfl rfl rfl (bC Tryz.underlying31 rfl) rfl (lg rfl rfl rfl (po_leqT rfl rfl (by omega)) rfl (lp (bO rfl rfl rfl) rfl (dM rfl rfl (lg rfl rfl rfl (aR fo_36_3 rfl) rfl (lg rfl rfl rfl (aO rfl (cT (a := fJ m.head) (i := 2) k_31 (hs.g 0 rfl) rfl rfl rfl)) rfl ?_)))))))))))))
 refine lg rfl rfl rfl (bC Tryz.underlying31 rfl) rfl (lg rfl rfl rfl (po_leqT rfl rfl (by omega)) rfl (lp (bO rfl rfl rfl) rfl (dM rfl rfl (lg rfl rfl rfl (aR fo_36_4 rfl) rfl (lg rfl rfl rfl (aO rfl (cT (a := fJ m.head) (i := 3) k_31 (hs.g 0 rfl) rfl rfl rfl)) rfl (lg rfl rfl rfl (bC Tryz.underlying31 rfl) rfl (lg rfl rfl rfl (po_leq rfl rfl) rfl (lp (bO rfl rfl rfl) rfl (dN rfl rfl (aH ?_))))))))))
 exact ⟨rfl, aL rfl (aL (by rw [show decide (m.asks.length ≤ 65535 ∧ m.answers.length ≤ 65535 ∧ m.authorities.length ≤ 65535 ∧ m.additionals.length ≤ 65535) = decide ((m.additionals.length : Int) ≤ 65535) from decide_eq_decide.2 (by omega)]; rfl) (bG _))⟩
 rintro ρ w2 ⟨hw2, hsub⟩
 subst hw2
 refine EW.weaken hsub (aF ?_)
 rcases (by omega : ¬ (m.asks.length ≤ 65535 ∧ m.answers.length ≤ 65535 ∧ m.authorities.length ≤ 65535 ∧ m.additionals.length ≤ 65535) ∨ ((m.asks.length ≤ 65535 ∧ m.answers.length ≤ 65535 ∧ m.authorities.length ≤ 65535 ∧ m.additionals.length ≤ 65535) ∧ 15 < m.head.op) ∨ ((m.asks.length ≤ 65535 ∧ m.answers.length ≤ 65535 ∧ m.authorities.length ≤ 65535 ∧ m.additionals.length ≤ 65535) ∧ m.head.op ≤ 15 ∧ 15 < m.head.code) ∨ ((m.asks.length ≤ 65535 ∧ m.answers.length ≤ 65535 ∧ m.authorities.length ≤ 65535 ∧ m.additionals.length ≤ 65535) ∧ m.head.op ≤ 15 ∧ m.head.code ≤ 15)) with h1 | ⟨h1, h2⟩ | ⟨h1, h2, h3⟩ | ⟨h1, h2, h3⟩
 refine aB (lp (aC (by rw [decide_eq_false h1]; rfl)) rfl (dM rfl rfl (aU rfl rfl rfl rfl (aU rfl rfl rfl rfl (aU rfl rfl rfl rfl (aU rfl rfl rfl rfl (lp (bW rfl rfl rfl) rfl (dM rfl rfl (aU rfl rfl rfl rfl (aU rfl rfl rfl rfl (aU rfl rfl rfl rfl (aU rfl rfl rfl rfl (lp (bW rfl rfl rfl) rfl ?_)))))))))))))
 refine dM rfl rfl (aU rfl rfl rfl rfl (aU rfl rfl rfl rfl (aU rfl rfl rfl rfl (lp (bW rfl rfl rfl) rfl (dN rfl rfl (aH (aV ⟨_, fW rfl, ?_⟩)))))))
 exact ⟨congrArg Value.bool (decide_eq_false (by omega)).symm, hs.drop hb1⟩
 refine aB (lp (aC (by rw [decide_eq_true h1]; rfl)) rfl (dM rfl rfl (lg rfl rfl rfl (aR fo_36_0 rfl) rfl (lg rfl rfl rfl (aR fo_33_2 rfl) rfl (lg rfl rfl rfl (aO rfl (aQ eS (hs.g 0 rfl) rfl)) rfl (lg rfl rfl rfl (po_leqF rfl rfl (by omega)) rfl (lp (bO rfl rfl rfl) rfl (dM rfl rfl (aU rfl rfl rfl rfl (aU rfl rfl rfl rfl (aU rfl rfl rfl rfl (aU rfl rfl rfl rfl (lp (bW rfl rfl rfl) rfl ?_)))))))))))))
 refine dM rfl rfl (aU rfl rfl rfl rfl (aU rfl rfl rfl rfl (aU rfl rfl rfl rfl (lp (bW rfl rfl rfl) rfl (dN rfl rfl (aH (aV ⟨_, fW rfl, ?_⟩)))))))
 exact ⟨congrArg Value.bool (decide_eq_false (by omega)).symm, hs.drop hb1⟩
 refine aB (lp (aC (by rw [decide_eq_true h1]; rfl)) rfl (dM rfl rfl (lg rfl rfl rfl (aR fo_36_0 rfl) rfl (lg rfl rfl rfl (aR fo_33_2 rfl) rfl (lg rfl rfl rfl (aO rfl (aQ eS (hs.g 0 rfl) rfl)) rfl (lg rfl rfl rfl (po_leqT rfl rfl (by omega)) rfl (lp (bO rfl rfl rfl) rfl (dM rfl rfl (lg rfl rfl rfl (aR fo_36_0 rfl) rfl (lg rfl rfl rfl (aR fo_33_9 rfl) rfl (lg rfl rfl rfl (aO rfl (aQ eS (hs.g 0 rfl) rfl)) rfl (lg rfl rfl rfl (po_leqF rfl rfl (by omega)) rfl (lp (bO rfl rfl rfl) rfl ?_)))))))))))))
 refine dM rfl rfl (aU rfl rfl rfl rfl (aU rfl rfl rfl rfl (aU rfl rfl rfl rfl (lp (bW rfl rfl rfl) rfl (dN rfl rfl (aH (aV ⟨_, fW rfl, ?_⟩)))))))
 exact ⟨congrArg Value.bool (decide_eq_false (by omega)).symm, hs.drop hb1⟩
 refine aB (lp (aC (by rw [decide_eq_true h1]; rfl)) rfl (dM rfl rfl (lg rfl rfl rfl (aR fo_36_0 rfl) rfl (lg rfl rfl rfl (aR fo_33_2 rfl) rfl (lg rfl rfl rfl (aO rfl (aQ eS (hs.g 0 rfl) rfl)) rfl (lg rfl rfl rfl (po_leqT rfl rfl (by omega)) rfl (lp (bO rfl rfl rfl) rfl (dM rfl rfl (lg rfl rfl rfl (aR fo_36_0 rfl) rfl (lg rfl rfl rfl (aR fo_33_9 rfl) rfl (lg rfl rfl rfl (aO rfl (aQ eS (hs.g 0 rfl) rfl)) rfl (lg rfl rfl rfl (po_leqT rfl rfl (by omega)) rfl (lp (bO rfl rfl rfl) rfl ?_)))))))))))))
 refine dM rfl rfl (lg rfl rfl rfl (aO rfl (aP k_36 (hs.g 0 rfl) rfl)) rfl (cX rfl rfl rfl (cF (cD rfl rfl ok_23 (n_Size hs.isIn hQ hA hU hD hsz)) rfl (fun vF w HF => ?_))))
 obtain ⟨rfl, hc⟩ := HF
 replace hs := hs.frame hc
 refine lg rfl rfl rfl (po_leq rfl rfl) rfl (lp (bO rfl rfl rfl) rfl (dN rfl rfl (aH (aV ⟨_, fW rfl, ?_⟩))))
 exact ⟨congrArg Value.bool (decide_eq_decide.2 (by omega)), hs.drop hb1⟩
end
end Go.Proofs.YtgpfjlfkaoffeaaGreatDoor
namespace Go.Proofs.YtgpfjlfkaoffeaaGreatDoor
open Go Go.Proofs.YtgpfjlfkaoffeaaGreatDoor Go.ChangeShapes Go.WideShapes Go.RowKit Go.Deep
theorem bulk_app {H : Type} (l r : List (DataW H)) : Rows.uptoBulkAll (l ++ r) = Rows.uptoBulkAll l + Rows.uptoBulkAll r := by
 induction l with
 | nil => simp [Rows.uptoBulkAll]
 | cons x l ih => simp only [List.cons_append, Rows.uptoBulkAll, ih]; omega
theorem u32_nat {z : Int} (h : (Lit.int .u32 z).wf = true) : ∃ n : Nat, n < 4294967296 ∧ z = n := by
 have hr : 0 ≤ z ∧ z ≤ 4294967295 := by
  simp [Lit.wf, IntKind.min, IntKind.max, IntKind.signed, IntKind.bits] at h
  omega
 exact ⟨z.toNat, by omega, by omega⟩
theorem rows_map {α : Type} {g : α → Value} : ∀ {al : List α} {xs : List Value}, Rows 1 (fun a c => c = [g a]) al xs → xs = al.map g
 | [], xs, h => by simpa [Rows] using h
 | a :: al, xs, h => by
  obtain ⟨c, rest, rfl, _, rfl, h2⟩ := h
  rw [rows_map h2]; rfl
section
variable {H : Type} {enc : TypeId × Value → H} {P : Program} {W : World} {t e : TypeId}
def Opens {α : Type} (enc : TypeId × Value → H) (P : Program) (W : World) (t : TypeId) (R : α → List Value → Prop) (f : α → Nat) : Prop :=
 ∀ (fuel : Nat) (cs : List Value) (x : DataW H × List MemPlace), DataW.trod enc P W 0 (fun _ => true) true fuel t cs = some x → ∃ a, R a cs ∧ f a ≤ 4 * Rows.uptoBulk x.1
theorem open_rows {α : Type} {R : α → List Value → Prop} {f : α → Nat} {size : Nat} (ht : P.underlying t = some (.slice e)) (hc : P.cellsOf e = size) (h0 : 0 < size) (hel : Opens enc P W e R f) :
  Opens enc P W t (fun (al : List α) cs => ∃ v xs, cs = [v] ∧ SlW (allV W) size v al.length xs ∧ Rows size R al xs) (fun al => (al.map f).sum) := by
 intro fuel cs x h
 rcases open_slice ht h with ⟨hcs, _⟩ | ⟨a, len, cap, m, n, D, Pl, hcs, _, hl, hm, hmm, hx, hi⟩
 exact ⟨[], ⟨_, [], hcs, ⟨none, 0, rfl, Nat.le_refl _, by simp, fun h => absurd h (by simp)⟩, rfl⟩, by simp⟩
 simp only [if_true] at hmm
 subst hmm
 rw [hc] at hi
 have key : ∀ k, k ≤ len → ∃ (al : List α) (xs : List Value), al.length = k ∧ Rows size R al xs ∧ (al.map f).sum ≤ 4 * Rows.uptoBulkAll ((List.range k).map D) ∧ ∀ j u, xs[j]? = some u → W.cell? (a.add j) = some u := by
  intro k
  induction k with
  | zero => exact fun _ => ⟨[], [], rfl, rfl, by simp, fun j u hu => by simp at hu⟩
  | succ k ih =>
   intro hk
   obtain ⟨al, xs, h1, h2, h3, h4⟩ := ih (by omega)
   obtain ⟨cs', h5, h6⟩ := hi k (by omega)
   obtain ⟨b, h7, h8⟩ := hel _ _ _ h6
   obtain ⟨_, h9, h10⟩ := World.cells?_some h5
   have hxl : xs.length = k * size := by rw [h2.len, h1]
   refine ⟨al ++ [b], xs ++ cs', by simp [h1], h2.snoc h7 h9, ?_, ?_⟩
   rw [List.map_append, List.sum_append, List.range_succ, List.map_append, bulk_app]
   simp only [List.map_cons, List.map_nil, List.sum_cons, List.sum_nil, Rows.uptoBulkAll]
   simp only at h8
   omega
   intro j u hu
   rcases Nat.lt_or_ge j (k * size) with h' | h'
   rw [List.getElem?_append_left (by omega)] at hu
   exact h4 j u hu
   rw [List.getElem?_append_right (by omega), hxl] at hu
   have hlt : j - k * size < size := by
    rcases Nat.lt_or_ge (j - k * size) size with h | h
    exact h
    rw [List.getElem?_eq_none (by omega)] at hu; cases hu
   have := h10 (j - k * size) hlt
   rw [Go.Deep.add_add, show k * size + (j - k * size) = j by omega, hu] at this
   exact this
 obtain ⟨al, xs, h1, h2, h3, h4⟩ := key len (Nat.le_refl _)
 refine ⟨al, ⟨_, xs, hcs, ⟨some a, m, by rw [h1], by rw [h1]; exact hl, h2.len, fun hp => ?_⟩, h2⟩, ?_⟩
 have hxl : 0 < xs.length := by rw [h2.len]; exact Nat.mul_pos hp h0
 have hsp := World.cell?_spot (h4 0 _ (List.getElem?_eq_getElem hxl))
 obtain ⟨b, o, sp⟩ := a
 have : sp = none := by simpa [Addr.add] using hsp
 subst this
 exact ⟨b, o, rfl, fun j u hu => allV_cell (by have := h4 j u hu; rwa [add_at] at this)⟩
 rw [hx]
 simp only [Rows.uptoBulk]
 omega
theorem open_one {fs : Array Field} {n : Nat} (ht : P.underlying t = some (.struct fs)) (hn : fs.size = n) (hone : oneCellFields P fs = true) (hC : P.cellsOf t = n) {fuel : Nat} {cs : List Value} {x : DataW H × List MemPlace} (h : DataW.trod enc P W 0 (fun _ => true) true fuel t cs = some x) :
  ∃ (m : Nat) (V : Nat → Value) (Y : Nat → DataW H × List MemPlace), cs = (List.range n).map V ∧ x.1 = .agg ((List.range n).map fun i => (Y i).1) ∧ ∀ (i : Nat) (f : Field), fs[i]? = some f → DataW.trod enc P W 0 (fun _ => true) true m f.type [V i] = some (Y i) := by
 subst hn
 obtain ⟨xs, m, _, rfl, hcl, hxl, hf⟩ := DataW.trod_struct ht h
 refine ⟨m, fun i => cs.getD i (.bool false), fun i => xs.getD i (.nil, []), ?_, ?_, fun i f hi => ?_⟩
 have := map_by_index cs (.bool false) id
 rw [List.map_id, hcl, hC] at this
 exact this
 show DataW.agg _ = _
 rw [map_by_index xs (.nil, []) (·.1), hxl]
 have hlt : i < fs.size := (Array.getElem?_eq_some_iff.1 hi).1
 obtain ⟨ho, hc1⟩ := hone_of hone i f hi
 have g := hf i f hi
 rw [ho, hc1] at g
 rw [take1_drop cs i (.bool false) (by omega), List.getElem?_eq_getElem (by omega)] at g
 rw [g]
 simp [List.getD, List.getElem?_eq_getElem (show i < xs.length by omega)]
theorem open_text (ht : P.underlying t = some .string) : Opens enc P W t (fun (s : List UInt8) cs => cs = [fR s]) (fun s => s.length + 1) := by
 intro fuel cs x h
 obtain ⟨s, h1, h2, _⟩ := DataW.trod_string ht h
 refine ⟨s.data.toList, ?_, ?_⟩
 rw [h1]; simp [fR, fB]
 rw [h2]; simp only [Rows.uptoBulk]; omega
theorem open_byte (ht : P.underlying t = some (.int .u8)) : Opens enc P W t (fun (b : UInt8) cs => cs = [eA b]) (fun _ => 1) := by
 intro fuel cs x h
 obtain ⟨z, h1, h2, hw⟩ := DataW.trod_int ht h
 have hr : 0 ≤ z ∧ z ≤ 255 := by
  simp [Lit.wf, IntKind.min, IntKind.max, IntKind.signed, IntKind.bits] at hw
  omega
 refine ⟨UInt8.ofNat z.toNat, ?_, ?_⟩
 rw [h1]
 show _ = [Value.int .u8 ((UInt8.ofNat z.toNat).toNat : Int)]
 rw [UInt8.toNat_ofNat_of_lt' (by show z.toNat < 256; omega), Int.toNat_of_nonneg hr.1]
 rw [h2]; simp only [Rows.uptoBulk]; omega
theorem sum_ones {α : Type} (l : List α) : (l.map fun _ => 1).sum = l.length := by
 induction l with
 | nil => rfl
 | cons a l ih => simp only [List.map_cons, List.sum_cons, List.length_cons, ih]; omega
theorem open_bytes (ht : P.underlying t = some (.slice e)) (he : P.underlying e = some (.int .u8)) (hc : P.cellsOf e = 1) : Opens enc P W t (fun (l : List UInt8) cs => ∃ v, cs = [v] ∧ RBW (allV W) v l) List.length := by
 intro fuel cs x h
 obtain ⟨l, ⟨v, xs, h1, h2, h3⟩, h4⟩ := open_rows ht hc (by decide) (open_byte he) _ _ _ h
 rw [rows_map h3] at h2
 refine ⟨l, ⟨v, h1, h2⟩, ?_⟩
 have h5 : (l.map fun _ => 1).sum ≤ 4 * Rows.uptoBulk x.1 := h4
 rwa [sum_ones] at h5
theorem open_texts (ht : P.underlying t = some (.slice e)) (he : P.underlying e = some .string) (hc : P.cellsOf e = 1) : Opens enc P W t (fun (l : List (List UInt8)) cs => ∃ v, cs = [v] ∧ RTextsW (allV W) v l) (fun l => (fE l).length) := by
 intro fuel cs x h
 obtain ⟨l, ⟨v, xs, h1, h2, h3⟩, h4⟩ := open_rows ht hc (by decide) (open_text he) _ _ _ h
 rw [rows_map h3] at h2
 refine ⟨l, ⟨v, h1, h2⟩, Nat.le_trans (Nat.le_of_eq ?_) h4⟩
 unfold fE
 clear h1 h2 h3 h4 h
 induction l with
 | nil => rfl
 | cons a l ih => simp only [List.map_cons, List.flatten_cons, List.length_append, List.length_cons, List.sum_cons, ih]
theorem open_nat16 (ht : P.underlying t = some (.int .u16)) {fuel : Nat} {v : Value} {x : DataW H × List MemPlace} (h : DataW.trod enc P W 0 (fun _ => true) true fuel t [v] = some x) : ∃ n : Nat, v = .int .u16 n ∧ Rows.uptoBulk x.1 = 1 := by
 obtain ⟨z, h1, h2, hw⟩ := DataW.trod_int ht h
 obtain ⟨n, _, rfl⟩ := u16_nat hw
 exact ⟨n, List.head_eq_of_cons_eq h1, by rw [h2]; simp only [Rows.uptoBulk]⟩
theorem open_nat32 (ht : P.underlying t = some (.int .u32)) {fuel : Nat} {v : Value} {x : DataW H × List MemPlace} (h : DataW.trod enc P W 0 (fun _ => true) true fuel t [v] = some x) : ∃ n : Nat, v = .int .u32 n ∧ Rows.uptoBulk x.1 = 1 := by
 obtain ⟨z, h1, h2, hw⟩ := DataW.trod_int ht h
 obtain ⟨n, _, rfl⟩ := u32_nat hw
 exact ⟨n, List.head_eq_of_cons_eq h1, by rw [h2]; simp only [Rows.uptoBulk]⟩
theorem open_int1 (ht : P.underlying t = some (.int .i64)) {fuel : Nat} {v : Value} {x : DataW H × List MemPlace} (h : DataW.trod enc P W 0 (fun _ => true) true fuel t [v] = some x) : ∃ z : Int, v = .int .i64 z ∧ Rows.uptoBulk x.1 = 1 := by
 obtain ⟨z, h1, h2, hw⟩ := DataW.trod_int ht h
 exact ⟨z, List.head_eq_of_cons_eq h1, by rw [h2]; simp only [Rows.uptoBulk]⟩
theorem open_bool1 (ht : P.underlying t = some .bool) {fuel : Nat} {v : Value} {x : DataW H × List MemPlace} (h : DataW.trod enc P W 0 (fun _ => true) true fuel t [v] = some x) : ∃ b : Bool, v = .bool b := by
 obtain ⟨z, h1, _⟩ := DataW.trod_bool ht h
 exact ⟨z, List.head_eq_of_cons_eq h1⟩
theorem open_str1 (ht : P.underlying t = some .string) {fuel : Nat} {v : Value} {x : DataW H × List MemPlace} (h : DataW.trod enc P W 0 (fun _ => true) true fuel t [v] = some x) : ∃ s : List UInt8, v = fR s ∧ s.length + 1 ≤ 4 * Rows.uptoBulk x.1 := by
 obtain ⟨s, h1, h2⟩ := open_text ht _ _ _ h
 exact ⟨s, List.head_eq_of_cons_eq h1, h2⟩
end
end Go.Proofs.YtgpfjlfkaoffeaaGreatDoor

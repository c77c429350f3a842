/- The reference's packing: a message. -/
import Derived.Test.YtgpfjlfkaoffeaaGreatDoorR29
import Derived.Test.YtgpfjlfkaoffeaaGreatDoorR16
set_option linter.all false
namespace Go.Proofs.YtgpfjlfkaoffeaaGreatDoor
open Go
theorem Sl.dropX {E E2 : TypeId} {size size2 n n2 : Nat} {B : Base} {w : World} {L X : List (Nat × Obj)} {v v2 : Value} {xs xs2 : List Value} (h : Sl E size B w (L ++ X) v n xs) (hX : SlX E2 size2 B.heap.size X v2 n2 xs2) : Sl E size B w L v n xs := by
 rcases hX.2 with ⟨_, _, rfl⟩ | ⟨g, cap, sp, _, _, _, _, hg, rfl⟩
 simpa using h
 have hp : List.Perm (L ++ [(g, Obj.cells (xs2 ++ sp).toArray E2 (0, 0))]) ((g, Obj.cells (xs2 ++ sp).toArray E2 (0, 0)) :: L) := List.perm_append_comm (l₁ := L) (l₂ := [(g, Obj.cells (xs2 ++ sp).toArray E2 (0, 0))])
 exact (Sl.perm h hp).drop hg
theorem fZ.done {B : Base} {w : World} {L : List (Nat × Obj)} {wb : Nat} {x : Ink} (h : fZ B w L wb x) (hb : B.heap.size ≤ wb) : ∃ vb vn va, w.heap[wb]? = some (.cells [vb, vn, va].toArray 74 (0, 0)) ∧ Sl 5 1 B w L vb x.out.length (x.out.map eA) := by
 obtain ⟨_, vb, vn, va, X, ⟨Xn, Xa, rfl, hXn, hXa⟩, hsl⟩ := h.sl
 refine ⟨vb, vn, va, hsl.st.get (k := 0) rfl, ?_⟩
 have h1 := hsl.drop hb
 rw [← List.append_assoc] at h1
 exact (h1.dropX hXa).dropX hXn
theorem fZ.gone {B : Base} {w : World} {L : List (Nat × Obj)} {wb : Nat} {x : Ink} (h : fZ B w L wb x) (hb : B.heap.size ≤ wb) : St B w L := by
 obtain ⟨_, _, _, _, hs⟩ := h.done hb
 exact hs.st
theorem asksP_next {l : List PAsk} {i : Nat} (h : i < l.length) (w : Ink) : asksP (l.drop i) w = (askP l[i] w).bind (asksP (l.drop (i + 1))) := by
 rw [List.drop_eq_getElem_cons h]; rfl
theorem askP_no {a : PAsk} {w : Ink} (h : nameP true (eN a.name) w = none) : askP a w = none := by unfold askP; rw [h]; rfl
theorem askP_yes {a : PAsk} {w w1 : Ink} (h : nameP true (eN a.name) w = some w1) : askP a w = some ((w1.put (be2 a.type)).put (be2 a.cls)) := by unfold askP; rw [h, gA]; rfl
theorem recsP_growL : ∀ {l : List fY} {w w2 : Ink}, recsP l w = some w2 → w2.out.length ≤ w.out.length + l.length * 66100
 | [], w, w2, h => by cases h; simp
 | r :: l, w, w2, h => by
  obtain ⟨w1, h1, h2⟩ := Option.bind_eq_some_iff.1 h
  have := recP_grow h1
  have := recsP_growL h2
  simp only [List.length_cons]; omega
def lensI (x : Ink) (m : PMess) (j : Nat) : Ink := ([m.asks.length, m.answers.length, m.authorities.length, m.additionals.length].take j).foldl (fun w n => w.put (be2 n)) x
theorem lensI_succ (x : Ink) (m : PMess) {j : Nat} (h : j < 4) : lensI x m (j + 1) = (lensI x m j).put (be2 ([m.asks.length, m.answers.length, m.authorities.length, m.additionals.length][j]'h)) := by
 unfold lensI
 rw [List.take_add_one, List.getElem?_eq_getElem (show j < [m.asks.length, m.answers.length, m.authorities.length, m.additionals.length].length from h)]
 simp only [Option.toList_some, List.foldl_append, List.foldl_cons, List.foldl_nil]
theorem lensI_len (x : Ink) (m : PMess) : ∀ j, j ≤ 4 → (lensI x m j).out.length = x.out.length + 2 * j
 | 0, _ => rfl
 | j + 1, h => by rw [lensI_succ x m h, fM, eP, lensI_len x m j (by omega)]; omega
theorem lensI_head (m : PMess) : lensI ((({} : Ink).put (be2 m.head.id)).put (be2 m.head.bits)) m 4 = ⟨headP m, []⟩ := by
 unfold lensI headP
 simp only [List.take, List.foldl_cons, List.foldl_nil, Ink.put, List.nil_append]
theorem cell4 {a b c d : Nat} {j : Nat} (h : j < 4) : [Value.int .i64 a, .int .i64 b, .int .i64 c, .int .i64 d][j]? = some (.int .i64 ([a, b, c, d][j]'h)) := by
 have : j = 0 ∨ j = 1 ∨ j = 2 ∨ j = 3 := by omega
 rcases this with rfl | rfl | rfl | rfl <;> rfl
theorem born_lt (h : PHead) : ∀ x ∈ ((headT h).map entB).toArray.toList, x.born < 7 := by
 intro x hx
 simp only [headT, List.map_cons, List.map_nil, List.mem_cons, List.not_mem_nil, or_false] at hx
 rcases hx with rfl | rfl | rfl | rfl | rfl | rfl | rfl <;> simp [entB]
theorem left_none {h : PHead} {seen : Array Nat} (hz : (leftOf ((headT h).map entB).toArray seen).size = 0) : leftB (headT h) seen = [] := by
 have e := left_map (headT h) seen
 have : (leftOf ((headT h).map entB).toArray seen).toList.length = 0 := by simpa using hz
 rw [e, List.length_map] at this
 exact List.eq_nil_of_length_eq_zero this
structure MFit (m : PMess) : Prop where
 nq : m.asks.length ≤ 65535
 na : m.answers.length ≤ 65535
 nu : m.authorities.length ≤ 65535
 nd : m.additionals.length ≤ 65535
 op : m.head.op < 16
 code : m.head.code < 16
 ans : ∀ r ∈ m.answers, FitS r
 aut : ∀ r ∈ m.authorities, FitS r
 add : ∀ r ∈ m.additionals, FitS r
section
variable {V : Vw} {w0 : World} {m : PMess} {va v1 v2 v3 : Value}
set_option maxHeartbeats 16000000 in
theorem n_Pack (hV : V.In w0) (hQ : RAsksW V va m.asks) (hA : RRecsK V v1 m.answers) (hU : RRecsK V v2 m.authorities) (hD : RRecsK V v3 m.additionals) (hm : MFit m) :
  eC Tryz.prog 11 #[.agg (fJ m.head ++ [va, v1, v2, v3]).toArray] w0 fun v w' => ∃ (x : Value) (ok : Bool), v = .tuple #[x, .bool ok] ∧
   ((∃ o, ok = true ∧ packM m = some o ∧ Sl 5 1 ⟨w0, V, V⟩ w' [] x o.length (o.map eA)) ∨ (ok = false ∧ packM m = none ∧ x = .slice none 0 0 ∧ St ⟨w0, V, V⟩ w' [])) := by
 have hnq := hm.nq
 have hna := hm.na
 have hnu := hm.nu
 have hnd := hm.nd
 have hop := hm.op
 have hco := hm.code
 obtain ⟨a1, c1, rfl⟩ := hA.form
 obtain ⟨a2, c2, rfl⟩ := hU.form
 obtain ⟨a3, c3, rfl⟩ := hD.form
 obtain ⟨xs, hS, hRw⟩ := hQ
 obtain ⟨aq, cq, rfl, _, hcq⟩ := hS.form
 have hs := St.start hV
 refine aT [_] Tryz.func11 Tryz.ntmps11 Tryz.results11 rfl rfl (dP (aJ (cR hs rfl rfl rfl (fun b1 w hb1 hbe1 hs => dN rfl rfl (dN rfl rfl (aH (dP (lp (aR fo_36_0 rfl) rfl (lp (aR fo_33_2 rfl) rfl (lp (aO rfl (aQ eS (hs.g 0 rfl) rfl)) rfl (lp (po_shl rfl rfl (by decide) (u16shl11 (by omega))) rfl (lp (aR fo_36_0 rfl) rfl (lp (aR fo_33_9 rfl) rfl (lp (aO rfl (aQ eS (hs.g 0 rfl) rfl)) rfl ?_))))))))))))))
 refine lp (po_or rfl rfl (u16or (a := m.head.op * 2048) (b := m.head.code) (by omega) (by omega))) rfl (dN rfl rfl (aH (aF (dP (aJ (o_makeMap hs rfl (fun b20 w hb20 hs => lp (aR fo_36_0 rfl) rfl (lp (aR fo_33_1 rfl) rfl (lp (aO rfl (aQ k_4 (hs.g 1 rfl) rfl)) rfl (aJ (o_insertB (k := 0) (p := 15) (T := []) Tryz.underlying71 Tryz.underlying3 hs rfl rfl rfl rfl (by simp) rfl (fun w hs => lp (aR fo_36_0 rfl) rfl (lp (aR fo_33_3 rfl) rfl (lp (aO rfl (aQ k_4 (hs.g 1 rfl) rfl)) rfl (aJ (o_insertB (k := 0) (p := 10) (T := [(15, m.head.response, 0)]) Tryz.underlying71 Tryz.underlying3 hs rfl rfl rfl rfl (by simp) rfl (fun w hs => ?_)))))))))))))))))
 refine lp (aR fo_36_0 rfl) rfl (lp (aR fo_33_4 rfl) rfl (lp (aO rfl (aQ k_4 (hs.g 1 rfl) rfl)) rfl (aJ (o_insertB (k := 0) (p := 9) (T := [(15, m.head.response, 0), (10, m.head.authority, 1)]) Tryz.underlying71 Tryz.underlying3 hs rfl rfl rfl rfl (by simp) rfl (fun w hs => lp (aR fo_36_0 rfl) rfl (lp (aR fo_33_5 rfl) rfl (lp (aO rfl (aQ k_4 (hs.g 1 rfl) rfl)) rfl (aJ (o_insertB (k := 0) (p := 8) (T := [(15, m.head.response, 0), (10, m.head.authority, 1), (9, m.head.cut, 2)]) Tryz.underlying71 Tryz.underlying3 hs rfl rfl rfl rfl (by simp) rfl (fun w hs => lp (aR fo_36_0 rfl) rfl (lp (aR fo_33_6 rfl) rfl (lp (aO rfl (aQ k_4 (hs.g 1 rfl) rfl)) rfl (aJ (o_insertB (k := 0) (p := 7) (T := [(15, m.head.response, 0), (10, m.head.authority, 1), (9, m.head.cut, 2), (8, m.head.desired, 3)]) Tryz.underlying71 Tryz.underlying3 hs rfl rfl rfl rfl (by simp) rfl (fun w hs => lp (aR fo_36_0 rfl) rfl (lp (aR fo_33_7 rfl) rfl ?_))))))))))))))))
 refine lp (aO rfl (aQ k_4 (hs.g 1 rfl) rfl)) rfl (aJ (o_insertB (k := 0) (p := 5) (T := [(15, m.head.response, 0), (10, m.head.authority, 1), (9, m.head.cut, 2), (8, m.head.desired, 3), (7, m.head.available, 4)]) Tryz.underlying71 Tryz.underlying3 hs rfl rfl rfl rfl (by simp) rfl (fun w hs => lp (aR fo_36_0 rfl) rfl (lp (aR fo_33_8 rfl) rfl (lp (aO rfl (aQ k_4 (hs.g 1 rfl) rfl)) rfl (aJ (o_insertB (k := 0) (p := 4) (T := [(15, m.head.response, 0), (10, m.head.authority, 1), (9, m.head.cut, 2), (8, m.head.desired, 3), (7, m.head.available, 4), (5, m.head.authentic, 5)]) Tryz.underlying71 Tryz.underlying3 hs rfl rfl rfl rfl (by simp) rfl (fun w hs => dM rfl rfl (aJ (o_range (k := 0) Tryz.underlying71 hs rfl rfl rfl (fun r43 w hr43 hs => ?_)))))))))))
 replace hs : St ⟨w0, V, V⟩ w [(r43, .mapIter (some b20) 7 #[] 7), (b20, mapB (headT m.head)), (b1, .cells (fJ m.head ++ [Value.slice aq m.asks.length cq, .slice a1 m.answers.length c1, .slice a2 m.authorities.length c2, .slice a3 m.additionals.length c3]).toArray 36 (0, 0))] := hs
 refine aH (bQ (dC (fun g : List (Nat × Bool × Nat) × Array Nat => eH (eH (eH emp 43 (.pointer (some ⟨r43, 0, none⟩))) 4 (.int .u16 (setB (g.1.map fun t => (t.1, t.2.1)) (m.head.op * 2048 ||| m.head.code) : Nat))) 1 (.pointer (some ⟨b1, 0, none⟩))) (fun g w => St ⟨w0, V, V⟩ w [(r43, .mapIter (some b20) 7 g.2 7), (b20, mapB (headT m.head)), (b1, .cells (fJ m.head ++ [Value.slice aq m.asks.length cq, .slice a1 m.answers.length c1, .slice a2 m.authorities.length c2, .slice a3 m.additionals.length c3]).toArray 36 (0, 0))] ∧ Rng m.head g.1 g.2 ∧ ∀ t ∈ g.1, t.1 < 16) (fun g => (leftB (headT m.head) g.2).length) ([], #[]) (aL rfl (aL rfl (aL rfl (bG _)))) ⟨hs, Rng.start _, fun t h => by cases h⟩ ?_))
 clear hs
 rintro ⟨D, seen⟩ w ⟨hs, hR, hD16⟩
 simp only at hs hR hD16 ⊢
 refine dG (fun ρ w2 => ∃ (b : Bool), Sub (eH (eH (eH (eH emp 45 (.bool b)) 43 (.pointer (some ⟨r43, 0, none⟩))) 4 (.int .u16 (setB (D.map fun t => (t.1, t.2.1)) (m.head.op * 2048 ||| m.head.code) : Nat))) 1 (.pointer (some ⟨b1, 0, none⟩))) ρ ∧ ((b = false ∧ leftB (headT m.head) seen = [] ∧ St ⟨w0, V, V⟩ w2 [(r43, .mapIter (some b20) 7 seen 7), (b20, mapB (headT m.head)), (b1, .cells (fJ m.head ++ [Value.slice aq m.asks.length cq, .slice a1 m.answers.length c1, .slice a2 m.authorities.length c2, .slice a3 m.additionals.length c3]).toArray 36 (0, 0))]) ∨ (b = true ∧ ∃ t ∈ leftB (headT m.head) seen, St ⟨w0, V, V⟩ w2 [(r43, .mapIter (some b20) 7 (seen.push t.2.2) 7), (b20, mapB (headT m.head)), (b1, .cells (fJ m.head ++ [Value.slice aq m.asks.length cq, .slice a1 m.answers.length c1, .slice a2 m.authorities.length c2, .slice a3 m.additionals.length c3]).toArray 36 (0, 0))]))) ?_ ?_
 refine aB (aJ (o_next (kr := 0) (kb := 1) hs rfl rfl rfl (born_lt m.head) (Nat.le_refl _) rfl (fun hz => ?_) (fun e he w3 L3 hL3 hs => ?_)))
 refine dO rfl rfl rfl (aH ?_)
 exact ⟨false, aL rfl (aL rfl (aL rfl (aL rfl (bG _)))), .inl ⟨rfl, left_none hz, hs⟩⟩
 rw [left_map] at he
 obtain ⟨t, ht, rfl⟩ := List.mem_map.1 he
 cases hL3
 refine dO rfl rfl rfl (aH ?_)
 exact ⟨true, aL rfl (aL rfl (aL rfl (aL rfl (bG _)))), .inr ⟨rfl, t, ht, hs⟩⟩
 · clear hs
   rintro ρ w2 ⟨b, hsub, hb⟩
   refine EW.weaken hsub (aF (bJ rfl (fun hc0 => ?_) (fun hc0 => ?_)))
   · obtain ⟨_, t, ht, hs⟩ := hb.resolve_left (fun h => by rw [h.1] at hc0; cases hc0)
     have htT : t ∈ headT m.head := (List.mem_filter.1 ht).1
     have ht16 := headT_lt m.head t htT
     obtain ⟨hR2, hlt⟩ := hR.step ht
     refine aW (bQ (dP (lp (po_entry (e := entB t) rfl (hs.g 0 rfl) (hs.g 1 rfl) (by simp only [List.mem_map]; exact ⟨t, htT, rfl⟩) (by rw [List.map_map]; exact headT_born m.head)) rfl (dO rfl rfl rfl (dO rfl rfl rfl (dN rfl rfl (dN rfl rfl (aH (dP (dM rfl rfl (aH (bJ rfl (fun hc1 => ?_) (fun hc1 => ?_)))))))))))))
     refine aB (dM rfl rfl (dM rfl rfl (lp (po_shl rfl rfl (by omega) (shl_one t.1 ht16)) rfl (lp (po_or rfl rfl (u16or (setB_lt (fun e he => by obtain ⟨u, hu, rfl⟩ := List.mem_map.1 he; exact hD16 u hu) (Nat.or_lt_two_pow (n := 16) (by omega) (by omega))) (Nat.pow_lt_pow_right (by decide) ht16))) rfl (dN rfl rfl (aH ?_))))))
     exact ⟨(D ++ [t], seen.push t.2.2), aL rfl (aL (by rw [List.map_append, List.map_cons, List.map_nil, setB_snoc, if_pos hc1]; rfl) (aL rfl (bG _))), ⟨hs, hR2, fun u hu => by
      simp only [List.mem_append, List.mem_cons, List.not_mem_nil, or_false] at hu
      exact hu.elim (hD16 u) (fun e => e ▸ ht16)⟩, hlt⟩
     refine aW ?_
     exact ⟨(D ++ [t], seen.push t.2.2), aL rfl (aL (by rw [List.map_append, List.map_cons, List.map_nil, setB_snoc, if_neg (by rw [hc1]; exact Bool.false_ne_true)]; rfl) (aL rfl (bG _))), ⟨hs, hR2, fun u hu => by
      simp only [List.mem_append, List.mem_cons, List.not_mem_nil, or_false] at hu
      exact hu.elim (hD16 u) (fun e => e ▸ ht16)⟩, hlt⟩
   · obtain ⟨_, hz, hs⟩ := hb.resolve_right (fun h => by rw [h.1] at hc0; cases hc0)
     have hbits := hR.done hz
     replace hs := (hs.drop hr43).drop hb20
     refine eT (dP (lp (bM (vs := []) (ps := []) rfl bz_74) rfl (aJ (cR hs rfl rfl rfl (fun b55 w hb55 hbe55 hs => ?_)))))
     have hI : fZ ⟨w0, V, V⟩ w [(b1, .cells (fJ m.head ++ [Value.slice aq m.asks.length cq, .slice a1 m.answers.length c1, .slice a2 m.authorities.length c2, .slice a3 m.additionals.length c3]).toArray 36 (0, 0))] b55 {} := fZ.nil (L := [(b1, _)]) (hs.perm (List.Perm.swap _ _ _))
     clear hs
     refine dN rfl rfl (aH (dP (dM rfl rfl (lp (aR fo_36_0 rfl) rfl (lp (aR cV rfl) rfl (lp (aO rfl (aQ eS (hI.get (k := 0) rfl) rfl)) rfl (aZ ok_24 rfl rfl (n_put2 hI (by decide) m.head.id) rfl (fun v60 w HF => ?_))))))))
     obtain _ := HF
     replace hI := HF
     refine aH (dP (dM rfl rfl (lp (aC (by rw [hbits]; rfl)) rfl (aZ ok_24 rfl rfl (n_put2 hI (by simp only [fM, eP]; decide) m.head.bits) rfl (fun v63 w HF => ?_)))))
     obtain _ := HF
     obtain ⟨hok, Y, hY, hs⟩ := HF
     clear hI
     refine aH (aF (dP (lp (aR fo_36_1 rfl) rfl (lp (aO rfl (cT (a := fJ m.head) (i := 0) k_34 (hs.g 0 rfl) rfl rfl rfl)) rfl (lp (bC Tryz.underlying34 rfl) rfl (lp (aR fo_36_2 rfl) rfl (lp (aO rfl (cT (a := fJ m.head) (i := 1) k_31 (hs.g 0 rfl) rfl rfl rfl)) rfl (lp (bC Tryz.underlying31 rfl) rfl (lp (aR fo_36_3 rfl) rfl (lp (aO rfl (cT (a := fJ m.head) (i := 2) k_31 (hs.g 0 rfl) rfl rfl rfl)) rfl (lp (bC Tryz.underlying31 rfl) rfl (lp (aR fo_36_4 rfl) rfl (lp (aO rfl (cT (a := fJ m.head) (i := 3) k_31 (hs.g 0 rfl) rfl rfl rfl)) rfl ?_)))))))))))))
     refine lp (bC Tryz.underlying31 rfl) rfl (aJ (o_bslice (vls := [[.int .i64 m.asks.length], [.int .i64 m.answers.length], [.int .i64 m.authorities.length], [.int .i64 m.additionals.length]]) el_62 hs rfl rfl rfl rfl (by simp) (by decide) (by decide) rfl (fun b76 w hb76 he76 hs => ?_)))
     have hI := hY.close (L := (b76, .cells [Value.int .i64 m.asks.length, .int .i64 m.answers.length, .int .i64 m.authorities.length, .int .i64 m.additionals.length].toArray 3 (0, 0)) :: [(b1, _)]) hok hs
     clear hs hY hok
     refine lp (bC Tryz.underlying62 rfl) rfl (dM rfl rfl (aH (bQ (dC (fun j : Nat => eH (eH (eH (eH (eH emp 78 (.int .i64 j)) 77 (.int .i64 (4 : Nat))) 76 (.slice (some ⟨b76, 0, none⟩) 4 4)) 7 (.pointer (some ⟨b55, 0, none⟩))) 1 (.pointer (some ⟨b1, 0, none⟩))) (fun j w => fZ ⟨w0, V, V⟩ w [(b76, .cells [Value.int .i64 m.asks.length, .int .i64 m.answers.length, .int .i64 m.authorities.length, .int .i64 m.additionals.length].toArray 3 (0, 0)), (b1, .cells (fJ m.head ++ [Value.slice aq m.asks.length cq, .slice a1 m.answers.length c1, .slice a2 m.authorities.length c2, .slice a3 m.additionals.length c3]).toArray 36 (0, 0))] b55 (lensI ((({} : Ink).put (be2 m.head.id)).put (be2 m.head.bits)) m j) ∧ j ≤ 4) (fun j => 4 - j) 0 (aL rfl (aL rfl (aL rfl (aL rfl (aL rfl (bG _)))))) ⟨hI, Nat.zero_le _⟩ ?_))))
     clear hI
     rintro j w ⟨hI, hj⟩
     refine dP (lp (cY rfl rfl) rfl (aH (aF (bH rfl (fun hc2 => ?_) (fun hc2 => ?_)))))
     have hjl : j < 4 := by omega
     have hll := lensI_len ((({} : Ink).put (be2 m.head.id)).put (be2 m.head.bits)) m j hj
     simp only [fM, eP, List.length_nil] at hll
     refine aW (aF (bQ (dP (lp (eZ j j es_62 rfl rfl rfl hjl (by omega)) rfl (lp (aO rfl (bR (v := .int .i64 ([m.asks.length, m.answers.length, m.authorities.length, m.additionals.length][j]'hjl)) cH (by rw [cell_list (hI.get (k := 0) rfl)]; exact cell4 hjl))) rfl (dN rfl rfl (aH (aB (dM rfl rfl (dM rfl rfl (lp (bY Tryz.underlying3 Tryz.underlying22 rfl gB) rfl (aZ ok_24 rfl rfl (n_put2 hI (by omega) (([m.asks.length, m.answers.length, m.authorities.length, m.additionals.length][j]'hjl) % 65536)) rfl (fun v85 w HF => ?_)))))))))))))
     obtain _ := HF
     rw [be2_mod, ← lensI_succ _ m hjl] at HF
     replace hI := HF
     refine aH (aB (lp (bN rfl rfl (fV (c := j + 1) (by omega) (by omega))) rfl (dM rfl rfl (aH ?_))))
     exact ⟨j + 1, aL rfl (aL rfl (aL rfl (aL rfl (aL rfl (bG _))))), ⟨hI, hjl⟩, by omega⟩
     · have hj4 : j = 4 := by omega
       subst hj4
       rw [lensI_head] at hI
       replace hI := hI.drop hb76
       refine eT (aF (dP (lp (aR fo_36_1 rfl) rfl (lp (aO rfl (cT (a := fJ m.head) (i := 0) k_34 (hI.get (k := 0) rfl) rfl rfl rfl)) rfl (lp (bC Tryz.underlying34 rfl) rfl (dM rfl rfl (aH (bQ (dC (fun g : Nat × Ink => eH (eH (eH (eH (eH emp 90 (.int .i64 g.1)) 89 (.int .i64 m.asks.length)) 88 (.slice aq m.asks.length cq)) 7 (.pointer (some ⟨b55, 0, none⟩))) 1 (.pointer (some ⟨b1, 0, none⟩))) (fun g w => fZ ⟨w0, V, V⟩ w [(b1, .cells (fJ m.head ++ [Value.slice aq m.asks.length cq, .slice a1 m.answers.length c1, .slice a2 m.authorities.length c2, .slice a3 m.additionals.length c3]).toArray 36 (0, 0))] b55 g.2 ∧ g.1 ≤ m.asks.length ∧ asksP (m.asks.drop g.1) g.2 = asksP m.asks ⟨headP m, []⟩ ∧ g.2.out.length ≤ 12 + g.1 * 600) (fun g => m.asks.length - g.1) (0, ⟨headP m, []⟩) (aL rfl (aL rfl (aL rfl (aL rfl (aL rfl (bG _)))))) ⟨hI, Nat.zero_le _, rfl, by simp [headP, be2]⟩ ?_)))))))))
       clear hI
       rintro ⟨j, y⟩ w ⟨hI, hj, hgo, hyl⟩
       simp only at hI hj hgo hyl ⊢
       refine dP (lp (cY rfl rfl) rfl (aH (aF (bH rfl (fun hc3 => ?_) (fun hc3 => ?_)))))
       have hjl : j < m.asks.length := by omega
       obtain ⟨b, p, rfl, hcells⟩ := hcq (by omega)
       obtain ⟨cr, rfl, hcl, hctt⟩ := hRw.at (List.getElem?_eq_getElem hjl)
       have hstep := asksP_next hjl y
       rw [hgo] at hstep
       obtain ⟨hok, Y, hY, hs⟩ := hI
       refine aW (aF (bQ (dP (lp (eZ j (p + j * 3) es_34 rfl rfl rfl hjl rfl) rfl ?_))))
       refine lp (aO rfl (ld_cells (l := askC m.asks[j]) k_77 rfl (fun i u hu => by
        rw [Nat.add_assoc]
        exact Vw.cell_in hs.isIn (hcells _ _ (fN hctt hu))))) rfl ?_
       refine aJ (aX hs z_77 rfl (fun b11 w hb11 he11 hs => aJ (dR 0 hs k_77 rfl rfl rfl rfl rfl (askC_flat _) rfl (fun w hs => ?_))))
       have hI := hY.close (L := (b11, _) :: [(b1, _)]) hok hs
       clear hs hY hok
       refine aH (aF (dP (dM rfl rfl (lp (aR fo_77_0 rfl) rfl (lp (aO rfl (aQ k_9 (hI.get (k := 0) rfl) rfl)) rfl (aZ ok_26 rfl rfl (n_fit hI.isIn m.asks[j].name) rfl (fun v97 w HF => ?_)))))))
       obtain ⟨rfl, hcc⟩ := HF
       replace hI := hI.frame hcc
       refine aZ ok_25 rfl rfl (n_name (short := true) hI (by omega) (eL _)) rfl (fun v98 w HF => ?_)
       obtain ⟨ok, y1, rfl, hI, hr1⟩ := HF
       refine lp (cS rfl) rfl (aH (bJ rfl (fun hc4 => ?_) (fun hc4 => ?_)))
       obtain rfl : ok = false := by simpa using hc4
       have hn1 := (hr1.resolve_left (fun h => by cases h.1)).2
       refine dP (dN rfl rfl (dN rfl rfl (aH (aV ⟨_, fX rfl rfl, ?_⟩))))
       exact ⟨_, false, rfl, .inr ⟨rfl, packM_q (by rw [hstep, askP_no hn1]; rfl), rfl, ((hI.drop hb11).gone hb55).drop hb1⟩⟩
       obtain rfl : ok = true := by simpa using hc4
       have hn1 := (hr1.resolve_right (fun h => by cases h.1)).2
       have hy1 := askP_yes hn1
       have hl1 := eW hn1
       have hfl := eL m.asks[j].name
       refine aW (dP (dM rfl rfl (lp (aR fo_77_1 rfl) rfl (lp (aO rfl (aQ eS (hI.get (k := 0) rfl) rfl)) rfl (aZ ok_24 rfl rfl (n_put2 hI (by omega) m.asks[j].type) rfl (fun v103 w HF => ?_))))))
       obtain _ := HF
       replace hI := HF
       refine aH (aB (dM rfl rfl (lp (aR fo_77_2 rfl) rfl (lp (aO rfl (aQ eS (hI.get (k := 0) rfl) rfl)) rfl (aZ ok_24 rfl rfl (n_put2 hI (by simp only [fM, eP]; omega) m.asks[j].cls) rfl (fun v107 w HF => ?_))))))
       obtain _ := HF
       replace hI := HF
       refine aH (aB (lp (bN rfl rfl (fV (c := j + 1) (by omega) (by omega))) rfl (dM rfl rfl (aH ?_))))
       exact ⟨(j + 1, (y1.put (be2 m.asks[j].type)).put (be2 m.asks[j].cls)), aL rfl (aL rfl (aL rfl (aL rfl (aL rfl (bG _))))), ⟨hI.drop hb11, hjl, by rw [hstep, hy1]; rfl, by simp only [fM, eP]; omega⟩, by simp only; omega⟩
       · have hjn : j = m.asks.length := by omega
         subst hjn
         rw [List.drop_length] at hgo
         have hq1 : asksP m.asks ⟨headP m, []⟩ = some y := hgo.symm
         refine eT (aF (dG (fun ρ w2 => ∃ (ok : Bool) (x2 : Ink), Sub (eH (eH (eH emp 127 (.bool (!ok))) 7 (.pointer (some ⟨b55, 0, none⟩))) 1 (.pointer (some ⟨b1, 0, none⟩))) ρ ∧ fZ ⟨w0, V, V⟩ w2 [(b1, .cells (fJ m.head ++ [Value.slice aq m.asks.length cq, .slice a1 m.answers.length c1, .slice a2 m.authorities.length c2, .slice a3 m.additionals.length c3]).toArray 36 (0, 0))] b55 x2 ∧ ((ok = true ∧ ((recsP m.answers y).bind (recsP m.authorities)).bind (recsP m.additionals) = some x2) ∨ (ok = false ∧ ((recsP m.answers y).bind (recsP m.authorities)).bind (recsP m.additionals) = none))) ?_ ?_))
         refine aB (dM rfl rfl (lp (aR fo_36_2 rfl) rfl (lp (aO rfl (cT (a := fJ m.head) (i := 1) k_31 (hI.get (k := 0) rfl) rfl rfl rfl)) rfl (aZ ok_27 rfl rfl (n_records hI (by omega) hA hm.ans hna) rfl (fun v112 w HF => ?_)))))
         obtain ⟨ok1, x1, rfl, hI, hr1⟩ := HF
         cases ok1
         have hn1 : recsP m.answers y = none := (hr1.resolve_left (fun h => by cases h.1)).2
         refine lp (cS rfl) rfl (dM rfl rfl (aU rfl rfl rfl rfl (aU rfl rfl rfl rfl (aU rfl rfl rfl rfl (aU rfl rfl rfl rfl (aU rfl rfl rfl rfl (lp (bO rfl rfl rfl) rfl (dM rfl rfl (aU rfl rfl rfl rfl (aU rfl rfl rfl rfl (aU rfl rfl rfl rfl (aU rfl rfl rfl rfl (aU rfl rfl rfl rfl ?_)))))))))))))
         refine lp (bO rfl rfl rfl) rfl (aH ?_)
         exact ⟨false, x1, (aL rfl (aL rfl (aL rfl (bG _)))), hI, .inr ⟨rfl, by rw [hn1]; rfl⟩⟩
         have hn1 : recsP m.answers y = some x1 := (hr1.resolve_right (fun h => by cases h.1)).2
         have hl1 := recsP_growL hn1
         refine lp (cS rfl) rfl (dM rfl rfl (lg rfl rfl rfl (aC rfl) rfl (lg rfl rfl rfl (aR fo_36_3 rfl) rfl (lg rfl rfl rfl (aO rfl (cT (a := fJ m.head) (i := 2) k_31 (hI.get (k := 0) rfl) rfl rfl rfl)) rfl (cX rfl rfl rfl (cF (cD rfl rfl ok_27 (n_records hI (by omega) hU hm.aut hnu)) rfl (fun vF w HF => ?_)))))))
         obtain ⟨ok2, x2, rfl, hI, hr2⟩ := HF
         cases ok2
         have hn2 : recsP m.authorities x1 = none := (hr2.resolve_left (fun h => by cases h.1)).2
         refine lg rfl rfl rfl (cS rfl) rfl (lp (bW rfl rfl rfl) rfl (dM rfl rfl (aU rfl rfl rfl rfl (aU rfl rfl rfl rfl (aU rfl rfl rfl rfl (aU rfl rfl rfl rfl (aU rfl rfl rfl rfl (lp (bO rfl rfl rfl) rfl (aH ?_)))))))))
         exact ⟨false, x2, (aL rfl (aL rfl (aL rfl (bG _)))), hI, .inr ⟨rfl, by rw [hn1, Option.bind_some, hn2]; rfl⟩⟩
         have hn2 : recsP m.authorities x1 = some x2 := (hr2.resolve_right (fun h => by cases h.1)).2
         have hl2 := recsP_growL hn2
         refine lg rfl rfl rfl (cS rfl) rfl (lp (bW rfl rfl rfl) rfl (dM rfl rfl (lg rfl rfl rfl (aC rfl) rfl (lg rfl rfl rfl (aR fo_36_4 rfl) rfl (lg rfl rfl rfl (aO rfl (cT (a := fJ m.head) (i := 3) k_31 (hI.get (k := 0) rfl) rfl rfl rfl)) rfl (cX rfl rfl rfl (cF (cD rfl rfl ok_27 (n_records hI (by omega) hD hm.add hnd)) rfl (fun vF w HF => ?_))))))))
         obtain ⟨ok, x3, rfl, hI3, hr3⟩ := HF
         refine lg rfl rfl rfl (cS rfl) rfl (lp (bW rfl rfl rfl) rfl (aH ?_))
         exact ⟨ok, x3, (aL rfl (aL rfl (aL rfl (bG _)))), hI3, by rw [hn1, Option.bind_some, hn2, Option.bind_some]; exact hr3⟩
         · clear hI
           rintro ρ w2 ⟨ok, x2, hsub, hI, hr⟩
           refine EW.weaken hsub (bJ rfl (fun hc5 => ?_) (fun hc5 => ?_))
           obtain rfl : ok = false := by simpa using hc5
           have hno := (hr.resolve_left (fun h => by cases h.1)).2
           refine dP (dN rfl rfl (dN rfl rfl (aH (aV ⟨_, fX rfl rfl, ?_⟩))))
           exact ⟨_, false, rfl, .inr ⟨rfl, by unfold packM; rw [hq1, Option.bind_some, hno]; rfl, rfl, (hI.gone hb55).drop hb1⟩⟩
           · obtain rfl : ok = true := by simpa using hc5
             have hyes := (hr.resolve_right (fun h => by cases h.1)).2
             refine aW (aF ?_)
             obtain ⟨vb, vn, va, hcb, hsl⟩ := hI.done hb55
             refine aB (dM rfl rfl (lp (aN rfl) rfl (lp (aR fo_74_0 rfl) rfl (lp (aO rfl (aQ k_23 hcb rfl)) rfl (dN rfl rfl (dN rfl rfl (aH (aV ⟨_, fX rfl rfl, ?_⟩))))))))
             exact ⟨_, true, rfl, .inl ⟨x2.out, rfl, by unfold packM; rw [hq1, Option.bind_some, hyes]; rfl, hsl.drop hb1⟩⟩
end
end Go.Proofs.YtgpfjlfkaoffeaaGreatDoor

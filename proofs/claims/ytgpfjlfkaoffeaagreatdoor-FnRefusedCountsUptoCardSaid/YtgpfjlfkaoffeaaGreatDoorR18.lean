/- Packing: a resource. Packing: a message. -/
import Derived.Test.YtgpfjlfkaoffeaaGreatDoorR17
set_option linter.all false
namespace Go.Proofs.YtgpfjlfkaoffeaaGreatDoor
open Go
def PackR (A : Nat → Addr) (w00 : World) (V0 V : Vw) (L : List (Nat × Obj)) (bm br : Nat) (E : TypeId) (rs : List Value) (p0 : Nat) (pre : List UInt8) (R : Option Ink) (v : Value) (w' : World) : Prop :=
 ∃ (mv e : Value) (k : EK) (rs' : List Value), v = .tuple #[mv, e] ∧ ErrV A e k ∧ rs'.length = rs.length ∧ (∀ q, p0 + 261 ≤ q → rs'[q]? = rs[q]?) ∧
  ((∃ w2 : Ink, k = .ok ∧ R = some w2 ∧ Keys w2.tbl ∧ Sl 5 1 ⟨w00, V0, V⟩ w' ((bm, eM w2.tbl) :: (br, .cells rs'.toArray E (0, 0)) :: L) mv (pre.length + w2.out.length) ((pre ++ w2.out).map eA)) ∨
   (k = .other ∧ R = none ∧ ∃ t' : List (List UInt8 × Nat), St ⟨w00, V0, V⟩ w' ((bm, eM t') :: (br, .cells rs'.toArray E (0, 0)) :: L)))
section
variable {A : Nat → Addr} {V V0 : Vw} {w w00 : World} {L : List (Nat × Obj)} {msg mv e bv : Value} {k : EK} {bm br p0 o : Nat} {pre out s : List UInt8} {t : List (List UInt8 × Nat)} {r : fY} {rs : List Value} {E : TypeId} {R : Option Ink}
theorem rh_bad {X : List UInt8} (h : (∃ w2 : Ink, k = .ok ∧ R = some w2 ∧ Keys w2.tbl ∧ o = pre.length + (w2.out.length + 8) ∧ Sl 5 1 ⟨w00, V0, V⟩ w ((bm, eM w2.tbl) :: L) mv (pre.length + (w2.out.length + 10)) ((pre ++ (w2.out ++ X)).map eA)) ∨
  (k = .other ∧ R = none ∧ ∃ t' : List (List UInt8 × Nat), St ⟨w00, V0, V⟩ w ((bm, eM t') :: L))) (hk : k ≠ .ok) : R = none ∧ ∃ t' : List (List UInt8 × Nat), St ⟨w00, V0, V⟩ w ((bm, eM t') :: L) := by
 rcases h with ⟨_, h, _⟩ | h
 exact absurd h hk
 exact h.2
theorem rh_good {X : List UInt8} (h : (∃ w2 : Ink, k = .ok ∧ R = some w2 ∧ Keys w2.tbl ∧ o = pre.length + (w2.out.length + 8) ∧ Sl 5 1 ⟨w00, V0, V⟩ w ((bm, eM w2.tbl) :: L) mv (pre.length + (w2.out.length + 10)) ((pre ++ (w2.out ++ X)).map eA)) ∨
  (k = .other ∧ R = none ∧ ∃ t' : List (List UInt8 × Nat), St ⟨w00, V0, V⟩ w ((bm, eM t') :: L))) (hk : ¬ k ≠ .ok) :
  ∃ w2 : Ink, R = some w2 ∧ Keys w2.tbl ∧ o = pre.length + (w2.out.length + 8) ∧ Sl 5 1 ⟨w00, V0, V⟩ w ((bm, eM w2.tbl) :: L) mv (pre.length + (w2.out.length + 10)) ((pre ++ (w2.out ++ X)).map eA) := by
 rcases h with ⟨w2, _, h⟩ | ⟨h, _⟩
 exact ⟨w2, h⟩
 subst h; exact absurd (by decide) hk
theorem fl_bad {m n : Nat} {P Q : Prop} (h : (k = .ok ∧ m ≤ n ∧ P) ∨ (k = .other ∧ n < m ∧ Q)) (hk : k ≠ .ok) : n < m ∧ Q := by
 rcases h with ⟨h, _⟩ | h
 exact absurd h hk
 exact h.2
theorem fl_good {m n : Nat} {P Q : Prop} (h : (k = .ok ∧ m ≤ n ∧ P) ∨ (k = .other ∧ n < m ∧ Q)) (hk : ¬ k ≠ .ok) : m ≤ n ∧ P := by
 rcases h with h | ⟨h, _⟩
 exact h.2
 subst h; exact absurd (by decide) hk
def resC (s : List UInt8) (ty cl ttl len : Nat) (bv : Value) : List Value := rhdC s ty cl ttl len ++ [bv]
theorem resC_set {ty ty2 cl ttl len : Nat} (h255 : s.length ≤ 255) (h : ∀ j u, (resC s ty cl ttl len bv)[j]? = some u → rs[p0 + j]? = some u) : ∀ j u, (resC s ty2 cl ttl len bv)[j]? = some u → (rs.set (p0 + 256) (.int .u16 ty2))[p0 + j]? = some u := by
 have hn := cM (n := s.length) h255
 have e : ∀ x, resC s x cl ttl len bv = nmC s s.length ++ (.int .u16 x :: [.int .u16 cl, .int .u32 ttl, .int .u16 len, bv]) := fun x => by simp [resC, rhdC]
 intro j u hu
 by_cases hj : j = 256
 subst hj
 have h1 : rs[p0 + 256]? = some (.int .u16 ty) := h 256 _ (by rw [e, List.getElem?_append_right (by omega), hn]; rfl)
 have hl : p0 + 256 < rs.length := (List.getElem?_eq_some_iff.1 h1).1
 rw [e, List.getElem?_append_right (by omega), hn] at hu
 rw [List.getElem?_set_self hl]
 simpa using hu
 rw [List.getElem?_set_ne (by omega)]
 refine h j u ?_
 rw [e] at hu ⊢
 rcases Nat.lt_or_ge j 256 with hlt | hge
 rw [List.getElem?_append_left (by omega)] at hu ⊢
 exact hu
 rw [List.getElem?_append_right (by omega), hn] at hu ⊢
 obtain ⟨i, hi⟩ : ∃ i, j - 256 = i + 1 := ⟨j - 257, by omega⟩
 rw [hi, List.getElem?_cons_succ] at hu ⊢
 exact hu
set_option maxHeartbeats 4000000 in
theorem p_resource (hG : Gl A V) (hs : Sl 5 1 ⟨w00, V0, V⟩ w ((bm, eM t) :: (br, .cells rs.toArray E (0, 0)) :: L) msg (pre.length + out.length) ((pre ++ out).map eA)) (hm : pre.length + out.length ≤ 34359738368) (hk : Keys t)
  (hrow : ∀ j u, (resC (eN r.name) r.type r.cls r.ttl r.length bv)[j]? = some u → rs[p0 + j]? = some u) (hlen : p0 + 261 ≤ rs.length) (hB : PBody V r bv) (hf : FitR r) (h1 : 1 ≤ r.kind) (h13 : r.kind ≤ 13)
  (hty : eG r < 65536) (hcl : r.cls < 65536) (hln : r.length < 65536) :
  eC Tryz.prog 65 #[.pointer (some ⟨br, p0, none⟩), msg, .map (some bm), .int .i64 (pre.length : Nat)] w (PackR A w00 V0 V L bm br E rs p0 pre (recP r ⟨out, t⟩)) := by
 obtain ⟨T, bb, fr, fp, rfl, hM⟩ := hB.meths hG hf h1 h13
 have h255 := eL r.name
 have hn := cM (n := (eN r.name).length) h255
 have hbody : rs[p0 + 260]? = some (.iface T (.pointer (some ⟨bb, 0, none⟩))) := hrow 260 _ (by unfold resC rhdC; rw [List.append_assoc]; exact at256 h255 4 rfl)
 have hset := resC_set (ty2 := eG r) h255 hrow
 obtain ⟨X, hX, hs⟩ := hs.open
 refine aT [_, _, _, _] Tryz.func65 Tryz.ntmps65 Tryz.results65 rfl rfl (dP (dN rfl rfl (dN rfl rfl (aH (aF (dP (dM rfl rfl (lp (aN rfl) rfl (lp (bD fo_116_1 rfl) rfl (lp (aO rfl (aQ k_114 (hs.g 1 rfl) (by rw [lget_eq]; exact hbody))) rfl (lp (po_eql_nil Tryz.underlying114 rfl) rfl (aH (aY rfl rfl ?_)))))))))))))
 refine aW (dP (dM rfl rfl (dN rfl rfl (aH (dP (dM rfl rfl (dM rfl rfl (lp (aN rfl) rfl (lp (bD fo_116_1 rfl) rfl (lp (aO rfl (aQ k_114 (hs.g 1 rfl) (by rw [lget_eq]; exact hbody))) rfl (l_invoke (hM.rm _) hM.rok rfl rfl (hM.rc _ _ _ _ hs) rfl (fun v28 w HF => ?_))))))))))))
 obtain ⟨rfl, hs2⟩ := HF
 replace hs := hs2
 refine lp (aN rfl) rfl (lp (po_fa0' fo_116_0 rfl) rfl (lp (bD fo_112_1 rfl) rfl (aJ (dQ 1 hs k_87 rfl rfl rfl rfl rfl (lset_of _ (by omega)) rfl (fun w hs => aH (aF ?_))))))
 have hcw : fG ⟨w00, V0, V⟩ ((br, .cells (rs.set (p0 + 256) (.int .u16 (eG r : Nat))).toArray E (0, 0)) :: L) br p0 (resC (eN r.name) (eG r) r.cls r.ttl r.length (.iface T (.pointer (some ⟨bb, 0, none⟩)))) := fG.own (List.mem_cons_self ..) hset
 have hch : fG ⟨w00, V0, V⟩ ((br, .cells (rs.set (p0 + 256) (.int .u16 (eG r : Nat))).toArray E (0, 0)) :: L) br p0 (rhdC (eN r.name) (eG r) r.cls r.ttl r.length) := hcw.part 0 (fun j u hu => by
  have hl : j < (rhdC (eN r.name) (eG r) r.cls r.ttl r.length).length := (List.getElem?_eq_some_iff.1 hu).1
  unfold resC
  rw [Nat.zero_add, List.getElem?_append_left hl]; exact hu)
 refine aB (dM rfl rfl (lp (aN rfl) rfl (lp (po_fa0' fo_116_0 rfl) rfl (dM rfl rfl (dM rfl rfl (dM rfl rfl (aZ ok_147 rfl rfl (p_rheader hG (SlX.close (L := _ :: _ :: L) hX hs) (by omega) h255 hch hty hcl hln hk) rfl (fun v39 w HF => ?_))))))))
 obtain ⟨mv, e, k, o, rfl, he, hr⟩ := HF
 clear hs hX
 refine dM rfl rfl (dO rfl rfl rfl (dO rfl rfl rfl (dO rfl rfl rfl (dN rfl rfl (dN rfl rfl (dN rfl rfl (aH (aF (dP (dM rfl rfl (lp (bB he rfl) rfl (aH (bH rfl (fun hc1 => ?_) (fun hc1 => ?_))))))))))))))
 obtain ⟨hno, t', hs⟩ := rh_bad hr hc1
 refine dP (dM rfl rfl (dM rfl rfl (lp (bL rfl (by (simp only [List.all_cons, List.all_nil, he.oneCell]; rfl)) (eI _ _)) rfl (aJ (cR hs rfl rfl rfl (fun b48 w hb48 hbe48 hs => ?_))))))
 replace hs := hs.drop hb48
 refine lp (cG Tryz.underlying139 (fun _ h => by cases h) rfl) rfl (dN rfl rfl (dN rfl rfl (aH (aV ⟨_, fX rfl rfl, ?_⟩))))
 exact ⟨_, _, .other, _, rfl, dA, by simp, fun q hq => List.getElem?_set_ne (by omega), .inr ⟨rfl, by rw [← recPL_eq r.length]; unfold recPL; rw [hno]; rfl, t', hs⟩⟩
 obtain ⟨w2, hn2, hk2, rfl, hs⟩ := rh_good hr hc1
 have hgrow := eW hn2
 simp only at hgrow
 refine aW (aF ?_)
 obtain ⟨sa, scap, rfl⟩ := hs.size
 refine aB (dM rfl rfl (lp (bC Tryz.underlying23 rfl) rfl (dN rfl rfl (aH (dP (dM rfl rfl (lp (aN rfl) rfl (lp (bD fo_116_1 rfl) rfl (lp (aO rfl (bR k_114 (hcw.ld hs.st (fun x hx => List.mem_cons_of_mem _ hx) 260 (by unfold resC rhdC; rw [List.append_assoc]; exact at256 h255 4 rfl)))) rfl (dM rfl rfl (dM rfl rfl (dM rfl rfl (l_invoke (hM.pm _) hM.pok rfl rfl (hM.pc _ _ _ _ _ pre (w2.out ++ (be2 (eG r) ++ be2 r.cls ++ be4 r.ttl ++ be2 r.length)) _ _ (by simpa [be2, be4] using hs) (by simp [be2, be4]; omega) hk2) rfl (fun v60 w HF => ?_))))))))))))))
 obtain ⟨mv2, e2, k2, rfl, he, hr2⟩ := HF
 clear hs
 refine dM rfl rfl (dO rfl rfl rfl (dO rfl rfl rfl (dN rfl rfl (dN rfl rfl (aH (aF (dP (dM rfl rfl (lp (bB he rfl) rfl (aH (bH rfl (fun hc2 => ?_) (fun hc2 => ?_))))))))))))
 obtain ⟨hno2, t', hs⟩ := PackQ.bad hr2 hc2
 refine dP (dM rfl rfl (dM rfl rfl (lp (bL rfl (by (simp only [List.all_cons, List.all_nil, he.oneCell]; rfl)) (eI _ _)) rfl (aJ (cR hs rfl rfl rfl (fun b68 w hb68 hbe68 hs => ?_))))))
 replace hs := hs.drop hb68
 refine lp (cG Tryz.underlying139 (fun _ h => by cases h) rfl) rfl (dN rfl rfl (dN rfl rfl (aH (aV ⟨_, fX rfl rfl, ?_⟩))))
 exact ⟨_, _, .other, _, rfl, dA, by simp, fun q hq => List.getElem?_set_ne (by omega), .inr ⟨rfl, by rw [← recPL_eq r.length]; unfold recPL; rw [hn2, Option.bind_some]; show ((fT r ⟨_, _⟩).bind _) = none; rw [hno2]; rfl, t', hs⟩⟩
 obtain ⟨w3, hn3, hk3, hs⟩ := PackQ.good hr2 hc2
 have hw3 := bodyP_len hn3
 have hw3b := bodyP_grow hf hn3
 simp only [List.length_append, be2, be4, List.length_cons, List.length_nil] at hw3 hw3b
 refine aW (aF (dP (dM rfl rfl (lp (aN rfl) rfl (lp (po_fa0' fo_116_0 rfl) rfl (dM rfl rfl (dM rfl rfl (dM rfl rfl (aZ ok_148 rfl rfl (p_fixLen hG hs (by omega) (lo := pre.length + (w2.out.length + 8)) (pl := pre.length + (w2.out.length + 10)) (by omega) (by omega) (by simp; omega)) rfl (fun v76 w HF => ?_))))))))))
 obtain ⟨k3, he, hr3⟩ := HF
 clear hs
 refine dN rfl rfl (aH (dP (dM rfl rfl (lp (bB he rfl) rfl (aH (bH rfl (fun hc3 => ?_) (fun hc3 => ?_)))))))
 obtain ⟨hbig, hs⟩ := fl_bad hr3 hc3
 refine dP (dM rfl rfl (dM rfl rfl (dN rfl rfl (dN rfl rfl (aH (aV ⟨_, fX rfl rfl, ?_⟩))))))
 exact ⟨_, _, k3, _, rfl, he, by simp, fun q hq => List.getElem?_set_ne (by omega), .inr ⟨by rcases hr3 with ⟨h, _⟩ | ⟨h, _⟩; exact absurd h hc3; exact h, by rw [← recPL_eq r.length]; unfold recPL; rw [hn2, Option.bind_some]; show ((fT r ⟨_, _⟩).bind _) = none; rw [hn3, Option.bind_some, if_pos (by omega)], _, hs⟩⟩
 obtain ⟨hsmall, hs⟩ := fl_good hr3 hc3
 refine aW (dP (dM rfl rfl (dN rfl rfl (dN rfl rfl (aH (aV ⟨_, fX rfl rfl, ?_⟩))))))
 have hq : pre.length + w3.out.length - (pre.length + (w2.out.length + 10)) = w3.out.length - (w2.out.length + 10) := by omega
 have hsa : setAt (pre ++ w3.out) (pre.length + (w2.out.length + 8)) (be2 (w3.out.length - (w2.out.length + 10))) = pre ++ setAt w3.out (w2.out.length + 8) (be2 (w3.out.length - (w2.out.length + 10))) := by
  unfold setAt
  rw [List.take_length_add_append, Nat.add_assoc, List.drop_length_add_append]
  simp
 rw [hq, hsa] at hs
 have hl3 := setAt_len (l := w3.out) (b := be2 (w3.out.length - (w2.out.length + 10))) (i := w2.out.length + 8) (by simp [be2]; omega)
 refine ⟨_, _, .ok, (rs.set (p0 + 256) (.int .u16 (eG r : Nat))).set (p0 + 259) (.int .u16 (w3.out.length - (w2.out.length + 10) : Nat)), rfl, rfl, by simp, fun q hq => by rw [List.getElem?_set_ne (by omega), List.getElem?_set_ne (by omega)], .inl ⟨⟨setAt w3.out (w2.out.length + 8) (be2 (w3.out.length - (w2.out.length + 10))), w3.tbl⟩, rfl, by rw [← recPL_eq r.length]; unfold recPL; rw [hn2, Option.bind_some]; show ((fT r ⟨_, _⟩).bind _) = some _; rw [hn3, Option.bind_some, if_neg (by omega)], hk3, by rw [hl3]; exact hs⟩⟩
end
end Go.Proofs.YtgpfjlfkaoffeaaGreatDoor
namespace Go.Proofs.YtgpfjlfkaoffeaaGreatDoor
open Go
structure Sec (V : Vw) (rs : List Value) (l : List fY) : Prop where
 len : l.length * 261 ≤ rs.length
 row : ∀ i (h : i < l.length), ∃ bv, (∀ j u, (resC (eN l[i].name) l[i].type l[i].cls l[i].ttl l[i].length bv)[j]? = some u → rs[i * 261 + j]? = some u) ∧ PBody V l[i] bv
 fit : ∀ r ∈ l, FitR r ∧ 1 ≤ r.kind ∧ r.kind ≤ 13 ∧ eG r < 65536 ∧ r.cls < 65536 ∧ r.length < 65536
theorem recsP_step {l : List fY} {i : Nat} (h : i < l.length) (w : Ink) : recsP (l.drop i) w = (recP l[i] w).bind (recsP (l.drop (i + 1))) := by
 rw [List.drop_eq_getElem_cons h]; rfl
theorem asksP_step {l : List PAsk} {i : Nat} (h : i < l.length) (w : Ink) : asksP (l.drop i) w = (askN (eN l[i].name) l[i].type l[i].cls w).bind (asksP (l.drop (i + 1))) := by
 rw [List.drop_eq_getElem_cons h]; rfl
theorem askN_grow {s : List UInt8} {ty cl : Nat} {w w2 : Ink} (hs : s.length ≤ 255) (h : askN s ty cl w = some w2) : w2.out.length ≤ w.out.length + 600 := by
 unfold askN at h
 obtain ⟨w3, h1, rfl⟩ := Option.map_eq_some_iff.1 h
 have e1 := eW h1
 simp only [Ink.put, List.length_append, eP]; omega
theorem Sl.perm {E : TypeId} {size n : Nat} {B : Base} {w : World} {L M : List (Nat × Obj)} {v : Value} {xs : List Value} (h : Sl E size B w L v n xs) (hp : List.Perm L M) : Sl E size B w M v n xs := by
 obtain ⟨h1, h2⟩ := h
 refine ⟨h1, ?_⟩
 rcases h2 with ⟨h3, h4, hs⟩ | ⟨g, cap, sp, h3, h4, h5, h6, h7, hs⟩
 exact .inl ⟨h3, h4, hs.perm hp⟩
 exact .inr ⟨g, cap, sp, h3, h4, h5, h6, h7, hs.perm (hp.cons _)⟩
theorem perm3 {x y z : Nat × Obj} {L : List (Nat × Obj)} : List.Perm (x :: y :: z :: L) (z :: y :: x :: L) :=
 (List.Perm.swap y x (z :: L)).trans (((List.Perm.swap z x L).cons y).trans (List.Perm.swap z y (x :: L)))
theorem perm3b {x y z : Nat × Obj} {L : List (Nat × Obj)} : List.Perm (x :: y :: z :: L) (z :: x :: y :: L) :=
 ((List.Perm.swap z y L).cons x).trans (List.Perm.swap z x (y :: L))
theorem le261 {j q : Nat} (h : (j + 1) * 261 ≤ q) : j * 261 + 261 ≤ q := by rw [Nat.add_mul, Nat.one_mul] at h; exact h
theorem le261b {j q : Nat} (h : (j + 1) * 261 ≤ q) : j * 261 ≤ q := Nat.le_trans (Nat.le_add_right _ _) (le261 h)
theorem le261c {j n x y : Nat} (h : n * 261 ≤ x) (hj : j < n) (e : y = x) : j * 261 + 261 ≤ y := by subst e; exact Nat.le_trans (le261 (Nat.mul_le_mul_right 261 hj)) h
theorem packM_q {m : PMess} (h : asksP m.asks ⟨headP m, []⟩ = none) : packM m = none := by unfold packM; rw [h]; rfl
theorem packM_a {m : PMess} {w1 : Ink} (h : asksP m.asks ⟨headP m, []⟩ = some w1) (h2 : recsP m.answers w1 = none) : packM m = none := by unfold packM; rw [h, Option.bind_some, h2]; rfl
theorem packM_u {m : PMess} {w1 w2 : Ink} (h : asksP m.asks ⟨headP m, []⟩ = some w1) (h2 : recsP m.answers w1 = some w2) (h3 : recsP m.authorities w2 = none) : packM m = none := by unfold packM; rw [h, Option.bind_some, h2, Option.bind_some, h3]; rfl
theorem packM_d {m : PMess} {w1 w2 w3 : Ink} {r : Option Ink} (h : asksP m.asks ⟨headP m, []⟩ = some w1) (h2 : recsP m.answers w1 = some w2) (h3 : recsP m.authorities w2 = some w3) (h4 : recsP m.additionals w3 = r) : packM m = r.map (·.out) := by
 unfold packM; rw [h, Option.bind_some, h2, Option.bind_some, h3, Option.bind_some, h4]
section
variable {A : Nat → Addr} {V V0 : Vw} {w w00 : World} {L : List (Nat × Obj)} {msg : Value} {bx bq ba bu bd ca cu cd cq : Nat} {pre : List UInt8} {m : PMess} {rsA rsU rsD : List Value} {E : TypeId}
set_option maxHeartbeats 8000000 in
theorem p_appendPack (hG : Gl A V) (hs : Sl 5 1 ⟨w00, V0, V⟩ w ((ba, .cells rsA.toArray E (0, 0)) :: (bu, .cells rsU.toArray E (0, 0)) :: (bd, .cells rsD.toArray E (0, 0)) :: L) msg pre.length (pre.map eA)) (hm : pre.length ≤ 4294967296)
  (hMsg : fG ⟨w00, V0, V⟩ L bx 0 (fJ m.head ++ [.slice (some ⟨bq, 0, none⟩) m.asks.length cq, .slice (some ⟨ba, 0, none⟩) m.answers.length ca, .slice (some ⟨bu, 0, none⟩) m.authorities.length cu, .slice (some ⟨bd, 0, none⟩) m.additionals.length cd]))
  (hQ : ∀ i (h : i < m.asks.length), fG ⟨w00, V0, V⟩ L bq (i * 258) (nmC (eN m.asks[i].name) (eN m.asks[i].name).length ++ [.int .u16 m.asks[i].type, .int .u16 m.asks[i].cls]) ∧ m.asks[i].type < 65536 ∧ m.asks[i].cls < 65536)
  (hA : Sec V rsA m.answers) (hU : Sec V rsU m.authorities) (hD : Sec V rsD m.additionals) (hnq : m.asks.length ≤ 65535) (hna : m.answers.length ≤ 65535) (hnu : m.authorities.length ≤ 65535) (hnd : m.additionals.length ≤ 65535)
  (hid : m.head.id < 65536) (hop : m.head.op < 16) (hco : m.head.code < 16) :
  eC Tryz.prog 34 #[.pointer (some ⟨bx, 0, none⟩), msg] w fun v w' => ∃ (mv e : Value) (k : EK) (rsA' rsU' rsD' : List Value), v = .tuple #[mv, e] ∧ ErrV A e k ∧
   ((∃ o, k = .ok ∧ packM m = some o ∧ Sl 5 1 ⟨w00, V0, V⟩ w' ((ba, .cells rsA'.toArray E (0, 0)) :: (bu, .cells rsU'.toArray E (0, 0)) :: (bd, .cells rsD'.toArray E (0, 0)) :: L) mv (pre.length + o.length) ((pre ++ o).map eA)) ∨
    (k = .other ∧ packM m = none ∧ St ⟨w00, V0, V⟩ w' ((ba, .cells rsA'.toArray E (0, 0)) :: (bu, .cells rsU'.toArray E (0, 0)) :: (bd, .cells rsD'.toArray E (0, 0)) :: L))) := by
 have hbits : m.head.bits < 65536 := by
  unfold PHead.bits
  exact orIf_lt (orIf_lt (orIf_lt (orIf_lt (orIf_lt (orIf_lt (orIf_lt (Nat.or_lt_two_pow (n := 16) (by omega) (by omega)) (by decide)) (by decide)) (by decide)) (by decide)) (by decide)) (by decide)) (by decide)
 have hM3 : ∀ {y1 y2 y3 : Nat × Obj}, ∀ x ∈ L, x ∈ y1 :: y2 :: y3 :: L := fun x hx => List.mem_cons_of_mem _ (List.mem_cons_of_mem _ (List.mem_cons_of_mem _ hx))
 have hM4 : ∀ {y1 y2 y3 y4 : Nat × Obj}, ∀ x ∈ L, x ∈ y1 :: y2 :: y3 :: y4 :: L := fun x hx => List.mem_cons_of_mem _ (hM3 x hx)
 have hHd : fG ⟨w00, V0, V⟩ L bx 0 (fJ m.head) := hMsg.part 0 (fun j u hu => by
  have hl : j < (fJ m.head).length := (List.getElem?_eq_some_iff.1 hu).1
  rw [Nat.zero_add, List.getElem?_append_left hl]; exact hu)
 obtain ⟨sa, scap, rfl⟩ := hs.size
 have hop0 := hs.open
 clear hs
 obtain ⟨X, hX, hs⟩ := hop0
 refine aT [_, _] Tryz.func34 Tryz.ntmps34 Tryz.results34 rfl rfl (dP (dN rfl rfl (dN rfl rfl (aH (aF (dP (dM rfl rfl (lp (aN rfl) rfl (lp (aR fo_54_1 rfl) rfl (lp (aO rfl (bR k_51 (hMsg.ld hs (fun x hx => List.mem_append_left _ (hM3 x hx)) 10 rfl))) rfl (lp (bC Tryz.underlying51 rfl) rfl (lp (cQ rfl rfl) rfl (aH ?_)))))))))))))
 refine aY rfl ((decide_eq_false (by omega))) (aW (aF (dP (dM rfl rfl (lp (aN rfl) rfl (lp (aR fo_54_2 rfl) rfl (lp (aO rfl (bR k_52 (hMsg.ld hs (fun x hx => List.mem_append_left _ (hM3 x hx)) 11 rfl))) rfl (lp (bC Tryz.underlying52 rfl) rfl (lp (cQ rfl rfl) rfl (aH (aY rfl ((decide_eq_false (by omega))) (aW (aF ?_)))))))))))))
 refine dP (dM rfl rfl (lp (aN rfl) rfl (lp (aR cI rfl) rfl (lp (aO rfl (bR k_52 (hMsg.ld hs (fun x hx => List.mem_append_left _ (hM3 x hx)) 12 rfl))) rfl (lp (bC Tryz.underlying52 rfl) rfl (lp (cQ rfl rfl) rfl (aH (aY rfl ((decide_eq_false (by omega))) (aW (aF (dP (dM rfl rfl (lp (aN rfl) rfl ?_)))))))))))))
 refine lp (aR cL rfl) rfl (lp (aO rfl (bR k_52 (hMsg.ld hs (fun x hx => List.mem_append_left _ (hM3 x hx)) 13 rfl))) rfl (lp (bC Tryz.underlying52 rfl) rfl (lp (cQ rfl rfl) rfl (aH (aY rfl ((decide_eq_false (by omega))) (aW (dP (aJ (aX hs z_97 rfl (fun b6 w hb6 he6 hs => aH (dP (dM rfl rfl (lp (aN rfl) rfl (lp (aR fo_54_0 rfl) rfl ?_))))))))))))))
 refine aZ ok_62 rfl rfl (p_Header hs (fun x hx => List.mem_cons_of_mem _ (List.mem_append_left _ (hM3 x hx))) m.head hHd hop hco) rfl (fun v50 w HF => ?_)
 obtain ⟨rfl, hs2⟩ := HF
 replace hs := hs2
 refine dM rfl rfl (dO rfl rfl rfl (dO rfl rfl rfl (lp (aR fo_97_0 rfl) rfl (aJ (dQ 0 hs eS rfl rfl rfl rfl rfl rfl rfl (fun w hs => lp (aR fo_97_1 rfl) rfl (aJ (dQ 0 hs eS rfl rfl rfl rfl rfl rfl rfl (fun w hs => aH (dP (dM rfl rfl (lp (aN rfl) rfl (lp (aR fo_54_1 rfl) rfl (lp (aO rfl (bR k_51 (hMsg.ld hs (fun x hx => List.mem_cons_of_mem _ (List.mem_append_left _ (hM3 x hx))) 10 rfl))) rfl (lp (bC Tryz.underlying51 rfl) rfl ?_)))))))))))))))
 refine lp (bY Tryz.underlying3 Tryz.underlying22 rfl (u16c (c := m.asks.length) rfl (by omega))) rfl (lp (aR fo_97_2 rfl) rfl (aJ (dQ 0 hs eS rfl rfl rfl rfl rfl rfl rfl (fun w hs => aH (dP (dM rfl rfl (lp (aN rfl) rfl (lp (aR fo_54_2 rfl) rfl (lp (aO rfl (bR k_52 (hMsg.ld hs (fun x hx => List.mem_cons_of_mem _ (List.mem_append_left _ (hM3 x hx))) 11 rfl))) rfl (lp (bC Tryz.underlying52 rfl) rfl (lp (bY Tryz.underlying3 Tryz.underlying22 rfl (u16c (c := m.answers.length) rfl (by omega))) rfl (lp (aR fo_97_3 rfl) rfl (aJ (dQ 0 hs eS rfl rfl rfl rfl rfl rfl rfl (fun w hs => aH ?_)))))))))))))))
 refine dP (dM rfl rfl (lp (aN rfl) rfl (lp (aR cI rfl) rfl (lp (aO rfl (bR k_52 (hMsg.ld hs (fun x hx => List.mem_cons_of_mem _ (List.mem_append_left _ (hM3 x hx))) 12 rfl))) rfl (lp (bC Tryz.underlying52 rfl) rfl (lp (bY Tryz.underlying3 Tryz.underlying22 rfl (u16c (c := m.authorities.length) rfl (by omega))) rfl (lp (aR fo_97_4 rfl) rfl (aJ (dQ 0 hs eS rfl rfl rfl rfl rfl rfl rfl (fun w hs => aH (dP (dM rfl rfl (lp (aN rfl) rfl (lp (aR cL rfl) rfl ?_))))))))))))))
 refine lp (aO rfl (bR k_52 (hMsg.ld hs (fun x hx => List.mem_cons_of_mem _ (List.mem_append_left _ (hM3 x hx))) 13 rfl))) rfl (lp (bC Tryz.underlying52 rfl) rfl (lp (bY Tryz.underlying3 Tryz.underlying22 rfl (u16c (c := m.additionals.length) rfl (by omega))) rfl (lp (aR fo_97_5 rfl) rfl (aJ (dQ 0 hs eS rfl rfl rfl rfl rfl rfl rfl (fun w hs => aH (dP (dM rfl rfl (lp (bC Tryz.underlying23 rfl) rfl (dN rfl rfl (aH (aF ?_))))))))))))
 have hs6 := SlX.close (L := (b6, .cells (hdr6 m.head.id m.head.bits m.asks.length m.answers.length m.authorities.length m.additionals.length).toArray 97 (0, 0)) :: (ba, .cells rsA.toArray E (0, 0)) :: (bu, .cells rsU.toArray E (0, 0)) :: (bd, .cells rsD.toArray E (0, 0)) :: L) hX hs
 have hh6 : fG ⟨w00, V0, V⟩ ((b6, .cells (hdr6 m.head.id m.head.bits m.asks.length m.answers.length m.authorities.length m.additionals.length).toArray 97 (0, 0)) :: (ba, .cells rsA.toArray E (0, 0)) :: (bu, .cells rsU.toArray E (0, 0)) :: (bd, .cells rsD.toArray E (0, 0)) :: L) b6 0 (hdr6 m.head.id m.head.bits m.asks.length m.answers.length m.authorities.length m.additionals.length) := fG.own (List.mem_cons_self ..) (fun j u hu => by rw [Nat.zero_add]; exact hu)
 clear hs hX
 refine aB (dM rfl rfl (aZ ok_63 rfl rfl (p_header hs6 (by omega) hh6 hid hbits (by omega) (by omega) (by omega) (by omega)) rfl (fun v86 w HF => ?_)))
 obtain _ := HF
 have hs := HF.drop hb6
 clear HF hs6 hh6
 obtain ⟨sa8, sc8, rfl⟩ := hs.size
 refine dN rfl rfl (aH (aF ?_))
 have hop := hs.open
 clear hs
 obtain ⟨X2, hX2, hs⟩ := hop
 refine aB (aJ (o_makeMap hs rfl (fun b87 w hb87 hs => ?_)))
 have hs3 : Sl 5 1 ⟨w00, V0, V⟩ w ((b87, eM []) :: (ba, .cells rsA.toArray E (0, 0)) :: (bu, .cells rsU.toArray E (0, 0)) :: (bd, .cells rsD.toArray E (0, 0)) :: L) (.slice sa8 (pre.length + 12) sc8) (pre.length + (headP m).length) ((pre ++ headP m).map eA) := SlX.close (L := (b87, eM []) :: (ba, .cells rsA.toArray E (0, 0)) :: (bu, .cells rsU.toArray E (0, 0)) :: (bd, .cells rsD.toArray E (0, 0)) :: L) hX2 hs
 clear hs hX2
 have hhl : (headP m).length = 12 := by simp [headP, be2]
 refine dN rfl rfl (aH (aF (dP (dM rfl rfl (lp (aN rfl) rfl (lp (aR fo_54_1 rfl) rfl (lp (aO rfl (bR k_51 (hMsg.ld hs3.st hM4 10 rfl))) rfl (lp (bC Tryz.underlying51 rfl) rfl (dM rfl rfl (aH (bQ (dC (fun g : Nat × List UInt8 × List (List UInt8 × Nat) × Value => eH (eH (eH (eH (eH (eH emp 93 (.int .i64 g.1)) 92 (.int .i64 m.asks.length)) 9 (.map (some b87))) 8 g.2.2.2) 7 (.int .i64 (pre.length : Nat))) 0 (.pointer (some ⟨bx, 0, none⟩))) (fun g w => Sl 5 1 ⟨w00, V0, V⟩ w ((b87, eM g.2.2.1) :: (ba, .cells rsA.toArray E (0, 0)) :: (bu, .cells rsU.toArray E (0, 0)) :: (bd, .cells rsD.toArray E (0, 0)) :: L) g.2.2.2 (pre.length + g.2.1.length) ((pre ++ g.2.1).map eA) ∧ g.1 ≤ m.asks.length ∧ Keys g.2.2.1 ∧ g.2.1.length ≤ 12 + g.1 * 600 ∧ asksP (m.asks.drop g.1) ⟨g.2.1, g.2.2.1⟩ = asksP m.asks ⟨headP m, []⟩) (fun g => m.asks.length - g.1) (0, headP m, [], _) (aL rfl (aL rfl (aL rfl (aL rfl (aL rfl (aL rfl (bG _))))))) ⟨hs3, Nat.zero_le _, Keys.nil, by simp only [hhl]; omega, rfl⟩ ?_))))))))))))
 clear hs3
 rintro ⟨i, o, t, sv⟩ w ⟨hs, hi, hk, hol, hR⟩
 simp only at hs hi hk hol hR ⊢
 refine dP (lp (cY rfl rfl) rfl (aH (aF (bH rfl (fun hc4 => ?_) (fun hc4 => ?_)))))
 have hil : i < m.asks.length := by omega
 obtain ⟨hq1, hq2, hq3⟩ := hQ i hil
 refine aW (aF (bQ (dP (dM rfl rfl (dN rfl rfl (aH (dP (dN rfl rfl (aH (dP (dM rfl rfl (lp (aN rfl) rfl (lp (aR fo_54_1 rfl) rfl ?_)))))))))))))
 refine lp (aO rfl (bR k_51 (hMsg.ld hs.st hM4 10 rfl))) rfl (dM rfl rfl (lp (eZ i (i * 258) es_51 rfl rfl rfl hil (by omega)) rfl (dM rfl rfl (dM rfl rfl (dM rfl rfl (aZ ok_64 rfl rfl (p_question hG hs (by omega) (eL _) (hq1.more hM3) hq2 hq3 hk) rfl (fun v106 w HF => ?_)))))))
 obtain ⟨mv, e, k, rfl, he, hr⟩ := HF
 clear hs
 refine dM rfl rfl (dO rfl rfl rfl (dO rfl rfl rfl (dN rfl rfl (dN rfl rfl (aH (dP (dM rfl rfl (lp (bB he rfl) rfl (aH (bH rfl (fun hc5 => ?_) (fun hc5 => ?_)))))))))))
 obtain ⟨hno, t', hs⟩ := PackQ.bad hr hc5
 refine dP (dM rfl rfl (lp (bL rfl (by (simp only [List.all_cons, List.all_nil, he.oneCell]; rfl)) (eI _ _)) rfl (aJ (cR hs rfl rfl rfl (fun b113 w hb113 hbe113 hs => ?_)))))
 replace hs := hs.drop hb113
 refine lp (cG Tryz.underlying139 (fun _ h => by cases h) rfl) rfl (dN rfl rfl (dN rfl rfl (aH (aV ⟨_, fX rfl rfl, ?_⟩))))
 exact ⟨_, _, .other, rsA, rsU, rsD, rfl, dA, .inr ⟨rfl, packM_q (by rw [← hR, asksP_step hil, hno]; rfl), hs.drop hb87⟩⟩
 obtain ⟨w2, hn, hk2, hs⟩ := PackQ.good hr hc5
 have hgrow := askN_grow (eL _) hn
 simp only at hgrow
 refine aW (aB (lp (bN rfl rfl (fV (c := i + 1) (by omega) (by omega))) rfl (dM rfl rfl (aH ?_))))
 exact ⟨(i + 1, w2.out, w2.tbl, mv), aL rfl (aL rfl (aL rfl (aL rfl (aL rfl (aL rfl (bG _)))))), ⟨hs, by simp only; omega, hk2, by simp only; omega, by rw [← hR, asksP_step hil, hn]; rfl⟩, by simp only; omega⟩
 · have hin : i = m.asks.length := by omega
   subst hin
   rw [List.drop_length] at hR
   have hR1 : asksP m.asks ⟨headP m, []⟩ = some ⟨o, t⟩ := hR.symm
   have hol1 : o.length ≤ 40000000 := by omega
   refine eT (aF (dP (dM rfl rfl (lp (aN rfl) rfl (lp (aR fo_54_2 rfl) rfl (lp (aO rfl (bR k_52 (hMsg.ld hs.st hM4 11 rfl))) rfl (lp (bC Tryz.underlying52 rfl) rfl (dM rfl rfl (aH (bQ (dC (fun g : Nat × List UInt8 × List (List UInt8 × Nat) × Value × List Value => eH (eH (eH (eH (eH (eH emp 121 (.int .i64 g.1)) 120 (.int .i64 m.answers.length)) 9 (.map (some b87))) 8 g.2.2.2.1) 7 (.int .i64 (pre.length : Nat))) 0 (.pointer (some ⟨bx, 0, none⟩))) (fun g w => Sl 5 1 ⟨w00, V0, V⟩ w ((b87, eM g.2.2.1) :: (ba, .cells g.2.2.2.2.toArray E (0, 0)) :: (bu, .cells rsU.toArray E (0, 0)) :: (bd, .cells rsD.toArray E (0, 0)) :: L) g.2.2.2.1 (pre.length + g.2.1.length) ((pre ++ g.2.1).map eA) ∧ g.1 ≤ m.answers.length ∧ Keys g.2.2.1 ∧ g.2.1.length ≤ 40000000 + g.1 * 66100 ∧ recsP (m.answers.drop g.1) ⟨g.2.1, g.2.2.1⟩ = recsP m.answers ⟨o, t⟩ ∧ g.2.2.2.2.length = rsA.length ∧ ∀ q, g.1 * 261 ≤ q → g.2.2.2.2[q]? = rsA[q]?) (fun g => m.answers.length - g.1) (0, o, t, sv, rsA) (aL rfl (aL rfl (aL rfl (aL rfl (aL rfl (aL rfl (bG _))))))) ⟨hs, Nat.zero_le _, hk, by simp only; omega, rfl, rfl, fun q _ => rfl⟩ ?_)))))))))))
   clear hs
   rintro ⟨j1, o2, t2, sv2, rsA1⟩ w ⟨hs, hj, hk2b, hjl, hjR, hrl, hrq⟩
   simp only at hs hj hk2b hjl hjR hrl hrq ⊢
   refine dP (lp (cY rfl rfl) rfl (aH (aF (bH rfl (fun hc6 => ?_) (fun hc6 => ?_)))))
   have hjn : j1 < m.answers.length := by omega
   obtain ⟨bv, hrow, hBv⟩ := hA.row j1 hjn
   obtain ⟨ft1, ft2, ft3, ft4, ft5, ft6⟩ := hA.fit _ (List.getElem_mem hjn)
   have hslen := hA.len
   refine aW (aF (bQ (dP (dM rfl rfl (dN rfl rfl (aH (dP (dN rfl rfl (aH (dP (dM rfl rfl (lp (aN rfl) rfl (lp (aR fo_54_2 rfl) rfl ?_)))))))))))))
   refine lp (aO rfl (bR k_52 (hMsg.ld hs.st hM4 11 rfl))) rfl (dM rfl rfl (lp (eZ j1 (j1 * 261) es_52 rfl rfl rfl hjn (by omega)) rfl (dM rfl rfl (dM rfl rfl (dM rfl rfl (aZ ok_65 rfl rfl (p_resource hG hs (by omega) hk2b (fun q u hu => by rw [hrq (j1 * 261 + q) (Nat.le_add_right _ _)]; exact hrow q u hu) (le261c hslen hjn hrl) hBv ft1 ft2 ft3 ft4 ft5 ft6) rfl (fun v134 w HF => ?_)))))))
   obtain ⟨mv, e, k, rs3, rfl, he, hl3, hq3, hr⟩ := HF
   clear hs
   refine dM rfl rfl (dO rfl rfl rfl (dO rfl rfl rfl (dN rfl rfl (dN rfl rfl (aH (dP (dM rfl rfl (lp (bB he rfl) rfl (aH (bH rfl (fun hc7 => ?_) (fun hc7 => ?_)))))))))))
   obtain ⟨hno, t', hs⟩ := PackQ.bad hr hc7
   refine dP (dM rfl rfl (lp (bL rfl (by (simp only [List.all_cons, List.all_nil, he.oneCell]; rfl)) (eI _ _)) rfl (aJ (cR hs rfl rfl rfl (fun b141 w hb141 hbe141 hs => ?_)))))
   replace hs := hs.drop hb141
   refine lp (cG Tryz.underlying139 (fun _ h => by cases h) rfl) rfl (dN rfl rfl (dN rfl rfl (aH (aV ⟨_, fX rfl rfl, ?_⟩))))
   exact ⟨_, _, .other, rs3, rsU, rsD, rfl, dA, .inr ⟨rfl, packM_a hR1 (by rw [← hjR, recsP_step hjn, hno]; rfl), hs.drop hb87⟩⟩
   obtain ⟨w2, hn, hkn, hs⟩ := PackQ.good hr hc7
   have hgrow := recP_grow hn
   simp only at hgrow
   refine aW (aB (lp (bN rfl rfl (fV (c := j1 + 1) (by omega) (by omega))) rfl (dM rfl rfl (aH ?_))))
   exact ⟨(j1 + 1, w2.out, w2.tbl, mv, rs3), aL rfl (aL rfl (aL rfl (aL rfl (aL rfl (aL rfl (bG _)))))), ⟨hs, by simp only; omega, hkn, by simp only; omega, by rw [← hjR, recsP_step hjn, hn]; rfl, by rw [hl3, hrl], fun q hq => (hq3 q (le261 hq)).trans (hrq q (le261b hq))⟩, by simp only; omega⟩
   · have hin : j1 = m.answers.length := by omega
     subst hin
     rw [List.drop_length] at hjR
     have hR2 : recsP m.answers ⟨o, t⟩ = some ⟨o2, t2⟩ := hjR.symm
     have hol2 : o2.length ≤ 4400000000 := by omega
     clear hjR hrq hjl hj hrl
     refine eT (aF (dP (dM rfl rfl (lp (aN rfl) rfl (lp (aR cI rfl) rfl (lp (aO rfl (bR k_52 (hMsg.ld hs.st hM4 12 rfl))) rfl (lp (bC Tryz.underlying52 rfl) rfl (dM rfl rfl (aH (bQ (dC (fun g : Nat × List UInt8 × List (List UInt8 × Nat) × Value × List Value => eH (eH (eH (eH (eH (eH emp 149 (.int .i64 g.1)) 148 (.int .i64 m.authorities.length)) 9 (.map (some b87))) 8 g.2.2.2.1) 7 (.int .i64 (pre.length : Nat))) 0 (.pointer (some ⟨bx, 0, none⟩))) (fun g w => Sl 5 1 ⟨w00, V0, V⟩ w ((b87, eM g.2.2.1) :: (bu, .cells g.2.2.2.2.toArray E (0, 0)) :: (ba, .cells rsA1.toArray E (0, 0)) :: (bd, .cells rsD.toArray E (0, 0)) :: L) g.2.2.2.1 (pre.length + g.2.1.length) ((pre ++ g.2.1).map eA) ∧ g.1 ≤ m.authorities.length ∧ Keys g.2.2.1 ∧ g.2.1.length ≤ 4400000000 + g.1 * 66100 ∧ recsP (m.authorities.drop g.1) ⟨g.2.1, g.2.2.1⟩ = recsP m.authorities ⟨o2, t2⟩ ∧ g.2.2.2.2.length = rsU.length ∧ ∀ q, g.1 * 261 ≤ q → g.2.2.2.2[q]? = rsU[q]?) (fun g => m.authorities.length - g.1) (0, o2, t2, sv2, rsU) (aL rfl (aL rfl (aL rfl (aL rfl (aL rfl (aL rfl (bG _))))))) ⟨(hs.perm ((List.Perm.swap _ _ _).cons _)), Nat.zero_le _, hk2b, by simp only; omega, rfl, rfl, fun q _ => rfl⟩ ?_)))))))))))
     clear hs
     rintro ⟨j2, o3, t3, sv3, rsU1⟩ w ⟨hs, hj, hk3b, hjl, hjR, hrl, hrq⟩
     simp only at hs hj hk3b hjl hjR hrl hrq ⊢
     refine dP (lp (cY rfl rfl) rfl (aH (aF (bH rfl (fun hc8 => ?_) (fun hc8 => ?_)))))
     · have hjn : j2 < m.authorities.length := by omega
       obtain ⟨bv, hrow, hBv⟩ := hU.row j2 hjn
       obtain ⟨ft1, ft2, ft3, ft4, ft5, ft6⟩ := hU.fit _ (List.getElem_mem hjn)
       have hslen := hU.len
       refine aW (aF (bQ (dP (dM rfl rfl (dN rfl rfl (aH (dP (dN rfl rfl (aH (dP (dM rfl rfl (lp (aN rfl) rfl (lp (aR cI rfl) rfl ?_)))))))))))))
       refine lp (aO rfl (bR k_52 (hMsg.ld hs.st hM4 12 rfl))) rfl (dM rfl rfl (lp (eZ j2 (j2 * 261) es_52 rfl rfl rfl hjn (by omega)) rfl (dM rfl rfl (dM rfl rfl (dM rfl rfl (aZ ok_65 rfl rfl (p_resource hG hs (by omega) hk3b (fun q u hu => by rw [hrq (j2 * 261 + q) (Nat.le_add_right _ _)]; exact hrow q u hu) (le261c hslen hjn hrl) hBv ft1 ft2 ft3 ft4 ft5 ft6) rfl (fun v162 w HF => ?_)))))))
       obtain ⟨mv, e, k, rs3, rfl, he, hl3, hq3, hr⟩ := HF
       clear hs
       refine dM rfl rfl (dO rfl rfl rfl (dO rfl rfl rfl (dN rfl rfl (dN rfl rfl (aH (dP (dM rfl rfl (lp (bB he rfl) rfl (aH (bH rfl (fun hc9 => ?_) (fun hc9 => ?_)))))))))))
       · obtain ⟨hno, t', hs⟩ := PackQ.bad hr hc9
         refine dP (dM rfl rfl (lp (bL rfl (by (simp only [List.all_cons, List.all_nil, he.oneCell]; rfl)) (eI _ _)) rfl (aJ (cR hs rfl rfl rfl (fun b169 w hb169 hbe169 hs => ?_)))))
         replace hs := hs.drop hb169
         refine lp (cG Tryz.underlying139 (fun _ h => by cases h) rfl) rfl (dN rfl rfl (dN rfl rfl (aH (aV ⟨_, fX rfl rfl, ?_⟩))))
         exact ⟨_, _, .other, rsA1, rs3, rsD, rfl, dA, .inr ⟨rfl, packM_u hR1 hR2 (by rw [← hjR, recsP_step hjn, hno]; rfl), (hs.drop hb87).perm (List.Perm.swap _ _ _)⟩⟩
       obtain ⟨w2, hn, hkn, hs⟩ := PackQ.good hr hc9
       have hgrow := recP_grow hn
       simp only at hgrow
       refine aW (aB (lp (bN rfl rfl (fV (c := j2 + 1) (by omega) (by omega))) rfl (dM rfl rfl (aH ?_))))
       exact ⟨(j2 + 1, w2.out, w2.tbl, mv, rs3), aL rfl (aL rfl (aL rfl (aL rfl (aL rfl (aL rfl (bG _)))))), ⟨hs, by simp only; omega, hkn, by simp only; omega, by rw [← hjR, recsP_step hjn, hn]; rfl, by rw [hl3, hrl], fun q hq => (hq3 q (le261 hq)).trans (hrq q (le261b hq))⟩, by simp only; omega⟩
     have hin : j2 = m.authorities.length := by omega
     subst hin
     rw [List.drop_length] at hjR
     have hR3 : recsP m.authorities ⟨o2, t2⟩ = some ⟨o3, t3⟩ := hjR.symm
     have hol3 : o3.length ≤ 8800000000 := by omega
     clear hjR hrq hjl hj hrl
     refine eT (aF (dP (dM rfl rfl (lp (aN rfl) rfl (lp (aR cL rfl) rfl (lp (aO rfl (bR k_52 (hMsg.ld hs.st hM4 13 rfl))) rfl (lp (bC Tryz.underlying52 rfl) rfl (dM rfl rfl (aH (bQ (dC (fun g : Nat × List UInt8 × List (List UInt8 × Nat) × Value × List Value => eH (eH (eH (eH (eH (eH emp 177 (.int .i64 g.1)) 176 (.int .i64 m.additionals.length)) 9 (.map (some b87))) 8 g.2.2.2.1) 7 (.int .i64 (pre.length : Nat))) 0 (.pointer (some ⟨bx, 0, none⟩))) (fun g w => Sl 5 1 ⟨w00, V0, V⟩ w ((b87, eM g.2.2.1) :: (bd, .cells g.2.2.2.2.toArray E (0, 0)) :: (bu, .cells rsU1.toArray E (0, 0)) :: (ba, .cells rsA1.toArray E (0, 0)) :: L) g.2.2.2.1 (pre.length + g.2.1.length) ((pre ++ g.2.1).map eA) ∧ g.1 ≤ m.additionals.length ∧ Keys g.2.2.1 ∧ g.2.1.length ≤ 8800000000 + g.1 * 66100 ∧ recsP (m.additionals.drop g.1) ⟨g.2.1, g.2.2.1⟩ = recsP m.additionals ⟨o3, t3⟩ ∧ g.2.2.2.2.length = rsD.length ∧ ∀ q, g.1 * 261 ≤ q → g.2.2.2.2[q]? = rsD[q]?) (fun g => m.additionals.length - g.1) (0, o3, t3, sv3, rsD) (aL rfl (aL rfl (aL rfl (aL rfl (aL rfl (aL rfl (bG _))))))) ⟨(hs.perm (perm3b.cons _)), Nat.zero_le _, hk3b, by simp only; omega, rfl, rfl, fun q _ => rfl⟩ ?_)))))))))))
     clear hs
     rintro ⟨j3, o4, t4, sv4, rsD1⟩ w ⟨hs, hj, hk4b, hjl, hjR, hrl, hrq⟩
     simp only at hs hj hk4b hjl hjR hrl hrq ⊢
     refine dP (lp (cY rfl rfl) rfl (aH (aF (bH rfl (fun hc10 => ?_) (fun hc10 => ?_)))))
     have hjn : j3 < m.additionals.length := by omega
     obtain ⟨bv, hrow, hBv⟩ := hD.row j3 hjn
     obtain ⟨ft1, ft2, ft3, ft4, ft5, ft6⟩ := hD.fit _ (List.getElem_mem hjn)
     have hslen := hD.len
     refine aW (aF (bQ (dP (dM rfl rfl (dN rfl rfl (aH (dP (dN rfl rfl (aH (dP (dM rfl rfl (lp (aN rfl) rfl (lp (aR cL rfl) rfl ?_)))))))))))))
     refine lp (aO rfl (bR k_52 (hMsg.ld hs.st hM4 13 rfl))) rfl (dM rfl rfl (lp (eZ j3 (j3 * 261) es_52 rfl rfl rfl hjn (by omega)) rfl (dM rfl rfl (dM rfl rfl (dM rfl rfl (aZ ok_65 rfl rfl (p_resource hG hs (by omega) hk4b (fun q u hu => by rw [hrq (j3 * 261 + q) (Nat.le_add_right _ _)]; exact hrow q u hu) (le261c hslen hjn hrl) hBv ft1 ft2 ft3 ft4 ft5 ft6) rfl (fun v190 w HF => ?_)))))))
     obtain ⟨mv, e, k, rs3, rfl, he, hl3, hq3, hr⟩ := HF
     clear hs
     refine dM rfl rfl (dO rfl rfl rfl (dO rfl rfl rfl (dN rfl rfl (dN rfl rfl (aH (dP (dM rfl rfl (lp (bB he rfl) rfl (aH (bH rfl (fun hc11 => ?_) (fun hc11 => ?_)))))))))))
     obtain ⟨hno, t', hs⟩ := PackQ.bad hr hc11
     refine dP (dM rfl rfl (lp (bL rfl (by (simp only [List.all_cons, List.all_nil, he.oneCell]; rfl)) (eI _ _)) rfl (aJ (cR hs rfl rfl rfl (fun b197 w hb197 hbe197 hs => ?_)))))
     replace hs := hs.drop hb197
     refine lp (cG Tryz.underlying139 (fun _ h => by cases h) rfl) rfl (dN rfl rfl (dN rfl rfl (aH (aV ⟨_, fX rfl rfl, ?_⟩))))
     exact ⟨_, _, .other, rsA1, rsU1, rs3, rfl, dA, .inr ⟨rfl, packM_d (r := none) hR1 hR2 hR3 (by rw [← hjR, recsP_step hjn, hno]; rfl), (hs.drop hb87).perm perm3⟩⟩
     obtain ⟨w2, hn, hkn, hs⟩ := PackQ.good hr hc11
     have hgrow := recP_grow hn
     simp only at hgrow
     refine aW (aB (lp (bN rfl rfl (fV (c := j3 + 1) (by omega) (by omega))) rfl (dM rfl rfl (aH ?_))))
     exact ⟨(j3 + 1, w2.out, w2.tbl, mv, rs3), aL rfl (aL rfl (aL rfl (aL rfl (aL rfl (aL rfl (bG _)))))), ⟨hs, by simp only; omega, hkn, by simp only; omega, by rw [← hjR, recsP_step hjn, hn]; rfl, by rw [hl3, hrl], fun q hq => (hq3 q (le261 hq)).trans (hrq q (le261b hq))⟩, by simp only; omega⟩
     have hin : j3 = m.additionals.length := by omega
     subst hin
     rw [List.drop_length] at hjR
     have hR4 : recsP m.additionals ⟨o3, t3⟩ = some ⟨o4, t4⟩ := hjR.symm
     have hol4 : o4.length ≤ 13200000000 := by omega
     clear hjR hrq hjl hj hrl
     refine eT (dP (dM rfl rfl (dN rfl rfl (dN rfl rfl (aH (aV ⟨_, fX rfl rfl, ?_⟩))))))
     exact ⟨_, _, .ok, rsA1, rsU1, rsD1, rfl, rfl, .inl ⟨o4, rfl, packM_d hR1 hR2 hR3 hR4, (hs.drop hb87).perm perm3⟩⟩
end
end Go.Proofs.YtgpfjlfkaoffeaaGreatDoor

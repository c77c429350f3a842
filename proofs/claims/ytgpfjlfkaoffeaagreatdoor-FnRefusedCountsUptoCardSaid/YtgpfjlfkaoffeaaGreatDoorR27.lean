/- The reference's packing: a record in memory, its type, bytes filled up. -/
import Derived.Test.YtgpfjlfkaoffeaaGreatDoorR26
import Derived.Test.YtgpfjlfkaoffeaaGreatDoorR22
import Derived.Test.YtgpfjlfkaoffeaaGreatDoorR25
set_option linter.all false
namespace Go.Proofs.YtgpfjlfkaoffeaaGreatDoor
open Go
def SlW (V : Vw) (size : Nat) (v : Value) (n : Nat) (xs : List Value) : Prop :=
 ∃ a cap, v = .slice a n cap ∧ n ≤ cap ∧ xs.length = n * size ∧ (0 < n → ∃ b p, a = some ⟨b, p, none⟩ ∧ ∀ j u, xs[j]? = some u → V.cell b (p + j) = some u)
theorem SlW.form {V : Vw} {size n : Nat} {v : Value} {xs : List Value} (h : SlW V size v n xs) :
  ∃ a cap, v = .slice a n cap ∧ n ≤ cap ∧ (0 < n → ∃ b p, a = some ⟨b, p, none⟩ ∧ ∀ j u, xs[j]? = some u → V.cell b (p + j) = some u) := by
 obtain ⟨a, cap, h1, h2, _, h3⟩ := h
 exact ⟨a, cap, h1, h2, h3⟩
theorem SlW.mono {V V' : Vw} {size n : Nat} {v : Value} {xs : List Value} (hV : V.le V') (h : SlW V size v n xs) : SlW V' size v n xs := by
 obtain ⟨a, cap, h1, h2, h4, h3⟩ := h
 refine ⟨a, cap, h1, h2, h4, fun h0 => ?_⟩
 obtain ⟨b, p, h5, h6⟩ := h3 h0
 exact ⟨b, p, h5, fun j u hu => Vw.cell_le hV (h6 j u hu)⟩
theorem SlW.oneCell {V : Vw} {size n : Nat} {v : Value} {xs : List Value} (h : SlW V size v n xs) : v.oneCell' = true := by
 obtain ⟨a, cap, rfl, _⟩ := h; rfl
theorem src_none0 {P : Program} {w : World} {size c : Nat} {a : Option Addr} : Src P w size (.slice a 0 c) 0 [] := by
 cases a with
 | none => exact src_nil
 | some a =>
  refine ⟨fun w' _ => ?_, fun w' => by simp [Builtin.lenOf], by simp⟩
  exact run_firstCells_some (P := P) w' size 0 a 0 c [] (by simp) (fun j v hv => by simp at hv)
theorem SlW.src {P : Program} {w : World} {V : Vw} {size n : Nat} {v : Value} {xs : List Value} (h : SlW V size v n xs) (hV : V.In w) : Src P w size v n xs := by
 obtain ⟨a, cap, rfl, _, hl, h3⟩ := h
 rcases Nat.eq_zero_or_pos n with h0 | h0
 subst h0
 have : xs = [] := List.eq_nil_of_length_eq_zero (by simpa using hl)
 subst this
 exact src_none0
 obtain ⟨b, p, rfl, hc⟩ := h3 h0
 exact src_slice hl fun j u hu => Vw.cell_in hV (hc j u hu)
def RBW (V : Vw) (v : Value) (l : List UInt8) : Prop := SlW V 1 v l.length (l.map eA)
theorem RBW.src {P : Program} {w : World} {V : Vw} {v : Value} {l : List UInt8} (h : RBW V v l) (hV : V.In w) : Src P w 1 v l.length (l.map eA) := SlW.src h hV
theorem RBW.len {P : Program} {w : World} {V : Vw} {v : Value} {l : List UInt8} (h : RBW V v l) : (Builtin.lenOf v).run P w = .ok l.length w := by
 obtain ⟨a, cap, rfl, _⟩ := h
 simp [Builtin.lenOf]
theorem RBW.oneCell {V : Vw} {v : Value} {l : List UInt8} (h : RBW V v l) : v.oneCell' = true := SlW.oneCell h
theorem RBW.mono {V V' : Vw} (hV : V.le V') {v : Value} {l : List UInt8} (h : RBW V v l) : RBW V' v l := SlW.mono hV h
theorem RBW.fst {P : Program} {V : Vw} {w : World} {v : Value} {l : List UInt8} {k : Nat} (h : RBW V v l) (hV : V.In w) (hk : k ≤ l.length) : Fst P w 1 v k ((l.take k).map eA) := by
 obtain ⟨a, cap, rfl, _, _, h3⟩ := h
 rcases Nat.eq_zero_or_pos k with h0 | h0
 subst h0
 have q := (src_none0 (P := P) (w := w) (size := 1) (c := cap) (a := a)).fst
 cases a <;> simpa [Fst, Builtin.firstCells] using q
 obtain ⟨b, p, rfl, hc⟩ := h3 (by omega)
 refine fst_slice (by simp; omega) fun j u hu => (Vw.cell_in hV (hc j u ?_))
 rw [List.map_take, List.getElem?_take] at hu
 split at hu
 exact hu
 cases hu
def RTextsW (V : Vw) (v : Value) (l : List (List UInt8)) : Prop := SlW V 1 v l.length (l.map fR)
def RPairW (V : Vw) (p : fU) (c : List Value) : Prop := ∃ v, c = [.int .u16 p.key, v] ∧ RBW V v p.data
def RPairsW (V : Vw) (v : Value) (l : List fU) : Prop := ∃ xs, SlW V 2 v l.length xs ∧ Rows 2 (RPairW V) l xs
def RAsksW (V : Vw) (v : Value) (l : List PAsk) : Prop := ∃ xs, SlW V 3 v l.length xs ∧ Rows 3 (fun a c => c = askC a) l xs
theorem RPairW.mono {V V' : Vw} (hV : V.le V') {p : fU} {c : List Value} (h : RPairW V p c) : RPairW V' p c := by
 obtain ⟨v, h1, h2⟩ := h
 exact ⟨v, h1, h2.mono hV⟩
theorem RPairsW.mono {V V' : Vw} (hV : V.le V') {v : Value} {l : List fU} (h : RPairsW V v l) : RPairsW V' v l := by
 obtain ⟨xs, h1, h2⟩ := h
 exact ⟨xs, h1.mono hV, h2.mono fun _ _ h => h.mono hV⟩
theorem RAsksW.mono {V V' : Vw} (hV : V.le V') {v : Value} {l : List PAsk} (h : RAsksW V v l) : RAsksW V' v l := by
 obtain ⟨xs, h1, h2⟩ := h
 exact ⟨xs, h1.mono hV, h2⟩
theorem RPairsW.oneCell {V : Vw} {v : Value} {l : List fU} (h : RPairsW V v l) : v.oneCell' = true := by
 obtain ⟨xs, h1, _⟩ := h; exact h1.oneCell
theorem RTextsW.oneCell {V : Vw} {v : Value} {l : List (List UInt8)} (h : RTextsW V v l) : v.oneCell' = true := SlW.oneCell h
theorem RTextsW.mono {V V' : Vw} (hV : V.le V') {v : Value} {l : List (List UInt8)} (h : RTextsW V v l) : RTextsW V' v l := SlW.mono hV h
def recK (r : fY) (k : Int) (vd vt vp : Value) : List Value :=
 [fR r.name, .int .u16 r.type, .int .u16 r.cls, .int .u32 r.ttl, .int .u16 r.length, .int .i64 k, vd, fR r.host, fR r.box, .int .u32 r.n1, .int .u32 r.n2, .int .u32 r.n3, .int .u32 r.n4, .int .u32 r.n5, vt, vp]
def KindI (r : fY) (k : Int) : Prop := (k = r.kind ∧ 1 ≤ r.kind ∧ r.kind ≤ 13) ∨ (r.kind = 0 ∧ (k < 1 ∨ 13 < k))
theorem KindI.at {r : fY} {k : Int} (h : KindI r k) {n : Nat} (e : k = n) (h1 : 1 ≤ n) (h2 : n ≤ 13) : r.kind = n := by
 rcases h with ⟨h, _⟩ | ⟨_, h⟩ <;> omega
def RRecK (V : Vw) (r : fY) (c : List Value) : Prop := ∃ k vd vt vp, c = recK r k vd vt vp ∧ KindI r k ∧ RBW V vd r.data ∧ RTextsW V vt r.texts ∧ RPairsW V vp r.pairs
def RRecsK (V : Vw) (v : Value) (l : List fY) : Prop := ∃ xs, SlW V 16 v l.length xs ∧ Rows 16 (RRecK V) l xs
theorem RRecK.flat {V : Vw} {r : fY} {c : List Value} (h : RRecK V r c) : Flat c ∧ c.length = 16 := by
 obtain ⟨k, vd, vt, vp, rfl, _, h2, h3, h4⟩ := h
 exact ⟨aG (by unfold recK; simp only [List.all_cons, List.all_nil, h2.oneCell, h3.oneCell, h4.oneCell]; rfl), rfl⟩
theorem RRecK.mono {V V' : Vw} (hV : V.le V') {r : fY} {c : List Value} (h : RRecK V r c) : RRecK V' r c := by
 obtain ⟨k, vd, vt, vp, h0, hk, h2, h3, h4⟩ := h
 exact ⟨k, vd, vt, vp, h0, hk, h2.mono hV, h3.mono hV, h4.mono hV⟩
theorem RRecsK.mono {V V' : Vw} (hV : V.le V') {v : Value} {l : List fY} (h : RRecsK V v l) : RRecsK V' v l := by
 obtain ⟨xs, h1, h2⟩ := h
 exact ⟨xs, h1.mono hV, h2.mono fun _ _ h => h.mono hV⟩
theorem RRecsK.form {V : Vw} {v : Value} {l : List fY} (h : RRecsK V v l) : ∃ a c, v = .slice a l.length c := by
 obtain ⟨xs, hS, _⟩ := h
 obtain ⟨a, c, h1, _⟩ := hS.form
 exact ⟨a, c, h1⟩
def tk (k d : Nat) : Nat := match k with
 | 1 => 1 | 2 => 2 | 3 => 5 | 4 => 6 | 5 => 12 | 6 => 15 | 7 => 16 | 8 => 28 | 9 => 33 | 10 => 41 | 11 => 64 | 12 => 65
 | _ => d
theorem type_tk (r : fY) : eG r = tk r.kind r.type := by unfold eG tk; split <;> simp_all
theorem tk_any : ∀ k, k < 13 → 1 ≤ k → ∀ d, tk k d = tk k 0 := by
 intro k hk h1 d
 have : k = 1 ∨ k = 2 ∨ k = 3 ∨ k = 4 ∨ k = 5 ∨ k = 6 ∨ k = 7 ∨ k = 8 ∨ k = 9 ∨ k = 10 ∨ k = 11 ∨ k = 12 := by omega
 rcases this with rfl | rfl | rfl | rfl | rfl | rfl | rfl | rfl | rfl | rfl | rfl | rfl <;> rfl
theorem tk_kind : ∀ t, t < 66 → 1 ≤ t → eE t = 13 ∨ (1 ≤ eE t ∧ eE t < 13 ∧ tk (eE t) 0 = t) := by decide
theorem kind_tk : ∀ k, k < 13 → 1 ≤ k → 1 ≤ tk k 0 ∧ tk k 0 < 66 ∧ eE (tk k 0) = k := by decide
theorem type_hit {r : fY} {k : Int} {t : Nat} (h : KindI r k) (ht : t < 66) (h1 : 1 ≤ t) (he : (eE t : Int) = k) (hn : k ≠ 13) : eG r = t := by
 rcases tk_kind t ht h1 with h3 | ⟨h3, h4, h5⟩
 omega
 have hk : r.kind = eE t := h.at he.symm h3 (by omega)
 rw [type_tk, hk, tk_any _ h4 h3, h5]
theorem type_miss {r : fY} {k : Int} (h : KindI r k) (hn : ∀ u, 1 ≤ u → u < 66 → ¬ ((eE u : Int) = k ∧ k ≠ 13)) : eG r = r.type := by
 rw [type_tk]
 rcases h with ⟨h, h1, h2⟩ | ⟨h, _⟩
 rcases Nat.lt_or_ge r.kind 13 with h3 | h3
 obtain ⟨a, b, c⟩ := kind_tk r.kind h3 h1
 exact absurd ⟨by rw [c]; exact h.symm, by omega⟩ (hn _ a b)
 rw [show r.kind = 13 by omega]; rfl
 rw [h]; rfl
section
variable {V : Vw} {w0 : World} {r : fY} {k : Int} {vd vt vp dv : Value} {d : List UInt8}
set_option maxHeartbeats 1000000 in
theorem n_data (hV : V.In w0) (hD : RBW V dv d) (n : Nat) (hn : n ≤ 16) :
  eC Tryz.prog 119 #[dv, .int .i64 n] w0 fun v w' => ∃ b, v = .slice (some ⟨b, 0, none⟩) n n ∧ w0.heap.size ≤ b ∧ St ⟨w0, V, V⟩ w' [(b, .cells ((padTo d n).map eA).toArray 5 (0, 0))] := by
 have hs := St.start hV
 refine aT [_, _] Tryz.func119 Tryz.ntmps119 Tryz.results119 rfl rfl (dP (dN rfl rfl (aH (dP (dM rfl rfl (aJ (o_make (c := n) (l := n) el_23 hs rfl rfl rfl rfl (Nat.le_refl _) (by omega) (by omega) rfl (fun b7 w hb7 he7 hs => ?_))))))))
 rw [made_one] at hs
 refine dN rfl rfl (aH (dP (dM rfl rfl (dM rfl rfl (aJ (o_copy (kk := 0) (k := Nat.min d.length n) (sl := d.length) (news := (d.take (Nat.min d.length n)).map eA) es_23 hs rfl rfl hD.len rfl (RBW.fst hD hs.isIn (Nat.min_le_left _ _)) (dH _) rfl (by have := Nat.min_le_right d.length n; simp; omega) rfl rfl (fun w hs => ?_)))))))
 rw [padTo_cells] at hs
 refine aH (dP (dM rfl rfl (dN rfl rfl (aH (aV ⟨_, fW rfl, ?_⟩)))))
 exact ⟨b7, rfl, hb7, hs⟩
set_option maxHeartbeats 1000000 in
theorem n_TypeOf (hV : V.In w0) (hk : KindI r k) :
  eC Tryz.prog 50 #[.agg (recK r k vd vt vp).toArray] w0 fun v w' => v = .int .u16 (eG r : Nat) ∧ St ⟨w0, V, V⟩ w' [] := by
 have hs := St.start hV
 refine aT [_] Tryz.func50 Tryz.ntmps50 Tryz.results50 rfl rfl (dP (aJ (cR hs rfl rfl rfl (fun b1 w hb1 hbe1 hs => dN rfl rfl (aH (aF (dP (dN rfl rfl (aH (bQ (dC (fun t : Nat => eH (eH emp 3 (.int .u16 t)) 1 (.pointer (some ⟨b1, 0, none⟩))) (fun t w => St ⟨w0, V, V⟩ w [(b1, .cells (recK r k vd vt vp).toArray 30 (0, 0))] ∧ 1 ≤ t ∧ t ≤ 66 ∧ ∀ u, 1 ≤ u → u < t → ¬ ((eE u : Int) = k ∧ k ≠ 13)) (fun t => 66 - t) 1 (aL rfl (aL rfl (bG _))) ⟨hs, Nat.le_refl _, by decide, fun u h1 h2 => absurd h2 (by omega)⟩ ?_)))))))))))
 clear hs
 rintro t w ⟨hs, ht1, ht2, hno⟩
 refine aF (dP (dM rfl rfl (lp (po_leq rfl rfl) rfl (aH (bH rfl (fun hc0 => ?_) (fun hc0 => ?_))))))
 have htl : t < 66 := by omega
 refine aW (aF (bQ (aF ?_)))
 rcases Classical.em ((eE t : Int) = k) with h1 | h1
 refine bV hs [3, 7] mixed (fun w hs => dI 0 rfl (fun w => aC rfl) rfl rfl (dI 2 rfl (fun w => aR fo_30_5 rfl) rfl rfl (dJ 3 rfl hs rfl (fun w hs => (aO rfl (aQ cH (hs.g 0 rfl) rfl))) rfl (dL 1 rfl (cF (cD rfl rfl ok_118 (c_KindOf hs.isIn t rfl)) rfl (fun v9 w HF => ?_))))))
 obtain ⟨rfl, hc⟩ := HF
 replace hs := hs.frame hc
 refine ⟨fun _ => hs, dI 4 rfl (fun w => po_eqlT rfl rfl h1) rfl rfl (dI 5 rfl (fun w => aC rfl) rfl rfl (dK 6 rfl rfl rfl rfl (fun h => absurd h (by decide +kernel)) (fun w _ => (aR fo_30_5 rfl)) rfl (dK 7 rfl rfl rfl rfl (fun _ => hs) (fun w h0 => have hs := h0 (by decide +kernel); (aO rfl (aQ cH (hs.g 0 rfl) rfl))) rfl (dK 8 rfl rfl rfl rfl (fun h => absurd h (by decide +kernel)) (fun w _ => (po_neq rfl rfl)) rfl (dI 9 rfl (fun w => bO rfl rfl rfl) rfl rfl (bS (by decide +kernel) (bH rfl (fun hc1 => ?_) (fun hc1 => ?_))))))))⟩
 refine dP (dM rfl rfl (dN rfl rfl (aH (aV ⟨_, fW rfl, ?_⟩))))
 exact ⟨congrArg (fun q : Nat => Value.int .u16 q) (type_hit hk htl ht1 h1 hc1).symm, hs.drop hb1⟩
 refine aW (aB (dM rfl rfl (lp (bN rfl rfl (u16c (c := t + 1) (by omega) (by omega))) rfl (dN rfl rfl (aH ?_)))))
 exact ⟨t + 1, aL rfl (aL rfl (bG _)), ⟨hs, by omega, by omega, fun u h3 h4 => by
  by_cases e : u = t
  subst e; exact fun h => hc1 h.2
  exact hno u h3 (by omega)⟩, by omega⟩
 refine bV hs [3] mixed (fun w hs => dI 0 rfl (fun w => aC rfl) rfl rfl (dI 2 rfl (fun w => aR fo_30_5 rfl) rfl rfl (dJ 3 rfl hs rfl (fun w hs => (aO rfl (aQ cH (hs.g 0 rfl) rfl))) rfl (dL 1 rfl (cF (cD rfl rfl ok_118 (c_KindOf hs.isIn t rfl)) rfl (fun v9 w HF => ?_))))))
 obtain ⟨rfl, hc⟩ := HF
 replace hs := hs.frame hc
 refine ⟨fun _ => hs, dI 4 rfl (fun w => po_eqlF rfl rfl h1) rfl rfl (dI 5 rfl (fun w => aC rfl) rfl rfl (a_gskip 6 rfl (by decide +kernel) rfl rfl rfl (fun h => absurd h (by decide +kernel)) rfl (a_gskip 7 rfl (by decide +kernel) rfl rfl rfl (fun h => absurd h (by decide +kernel)) rfl (a_gskip 8 rfl (by decide +kernel) rfl rfl rfl (fun h => absurd h (by decide +kernel)) rfl (dI 9 rfl (fun w => bW rfl rfl rfl) rfl rfl (bS (by decide +kernel) (aY rfl rfl (aW (aB (dM rfl rfl (lp (bN rfl rfl (u16c (c := t + 1) (by omega) (by omega))) rfl (dN rfl rfl ?_))))))))))))⟩
 refine aH ?_
 exact ⟨t + 1, aL rfl (aL rfl (bG _)), ⟨hs, by omega, by omega, fun u h3 h4 => by
  by_cases e : u = t
  subst e; exact fun h => h1 h.1
  exact hno u h3 (by omega)⟩, by omega⟩
 have hte : t = 66 := by omega
 refine eT (dP (lp (aR fo_30_1 rfl) rfl (lp (aO rfl (aQ eS (hs.g 0 rfl) rfl)) rfl (dN rfl rfl (aH (aV ⟨_, fW rfl, ?_⟩))))))
 exact ⟨congrArg (fun q : Nat => Value.int .u16 q) (type_miss hk (fun u h3 h4 => hno u h3 (by omega))).symm, hs.drop hb1⟩
end
end Go.Proofs.YtgpfjlfkaoffeaaGreatDoor

/- The reference's packing: bodies. -/
import Derived.Test.YtgpfjlfkaoffeaaGreatDoorR27
import Derived.Test.YtgpfjlfkaoffeaaGreatDoorR24
set_option linter.all false
namespace Go.Proofs.YtgpfjlfkaoffeaaGreatDoor
open Go
structure FitS (r : fY) : Prop where
 data : r.data.length ≤ 68719476736
 texts : (fE r.texts).length ≤ 68719476736
 pairs : (eX r.pairs).length ≤ 68719476736
theorem fM (x : Ink) (b : List UInt8) : (x.put b).out.length = x.out.length + b.length := by simp [Ink.put]
theorem gA (x : Ink) (a b : List UInt8) : (x.put a).put b = x.put (a ++ b) := by simp [Ink.put]
theorem put_nil (x : Ink) : x.put [] = x := by simp [Ink.put]
theorem textsP_next {l : List (List UInt8)} {j : Nat} (h : j < l.length) : fE (l.take (j + 1)) = fE (l.take j) ++ (UInt8.ofNat l[j].length :: l[j]) := by
 unfold fE
 rw [List.take_add_one, List.getElem?_eq_getElem h]
 simp only [Option.toList_some, List.map_append, List.map_cons, List.map_nil, List.flatten_append, List.flatten_cons, List.flatten_nil, List.append_nil]
theorem textsP_le (l : List (List UInt8)) (j : Nat) : (fE (l.take j)).length ≤ (fE l).length := by
 have h : fE l = fE (l.take j) ++ fE (l.drop j) := by
  unfold fE
  rw [← List.flatten_append, ← List.map_append, List.take_append_drop]
 rw [h, List.length_append]; omega
theorem textsP_cnt (l : List (List UInt8)) : l.length ≤ (fE l).length := by
 induction l with
 | nil => exact Nat.le_refl _
 | cons a l ih => simp only [fE, List.map_cons, List.flatten_cons, List.length_append, List.length_cons] at ih ⊢; omega
theorem pairsP_next {l : List fU} {j : Nat} (h : j < l.length) : eX (l.take (j + 1)) = eX (l.take j) ++ (be2 l[j].key ++ (be2 l[j].data.length ++ l[j].data)) := by
 unfold eX
 rw [List.take_add_one, List.getElem?_eq_getElem h]
 simp only [Option.toList_some, List.map_append, List.map_cons, List.map_nil, List.flatten_append, List.flatten_cons, List.flatten_nil, List.append_nil]
theorem pairsP_le (l : List fU) (j : Nat) : (eX (l.take j)).length ≤ (eX l).length := by
 have h : eX l = eX (l.take j) ++ eX (l.drop j) := by
  unfold eX
  rw [← List.flatten_append, ← List.map_append, List.take_append_drop]
 rw [h, List.length_append]; omega
theorem pairsP_cnt (l : List fU) : l.length ≤ (eX l).length := by
 induction l with
 | nil => exact Nat.le_refl _
 | cons a l ih => simp only [eX, List.map_cons, List.flatten_cons, List.length_append, List.length_cons, eP] at ih ⊢; omega
theorem long_any {l : List (List UInt8)} {j : Nat} (h : j < l.length) (h2 : 255 < l[j].length) : (l.any fun s => decide (255 < s.length)) = true := List.any_eq_true.2 ⟨l[j], List.getElem_mem h, by simpa using h2⟩
theorem short_any {l : List (List UInt8)} (h : ∀ j (hj : j < l.length), l[j].length ≤ 255) : ¬ (l.any fun s => decide (255 < s.length)) = true := by
 intro ha
 obtain ⟨s, hs, hd⟩ := List.any_eq_true.1 ha
 obtain ⟨j, hj, rfl⟩ := List.getElem_of_mem hs
 have := h j hj
 simp at hd; omega
theorem zero_any {l : List fU} {j : Nat} (h : j < l.length) (h0 : 0 < j) (h2 : l[j].key = 0) : (l.tail.any fun p => p.key == 0) = true := by
 refine List.any_eq_true.2 ⟨l[j], ?_, by simpa using h2⟩
 obtain ⟨i, rfl⟩ : ∃ i, j = i + 1 := ⟨j - 1, by omega⟩
 cases l with
 | nil => simp at h
 | cons a l => simp
theorem nozero_any {l : List fU} (h : ∀ j (hj : j < l.length), 0 < j → l[j].key ≠ 0) : ¬ (l.tail.any fun p => p.key == 0) = true := by
 intro ha
 obtain ⟨p, hp, hd⟩ := List.any_eq_true.1 ha
 obtain ⟨i, hi, rfl⟩ := List.getElem_of_mem hp
 cases l with
 | nil => simp at hi
 | cons a l =>
  have := h (i + 1) (by simpa using hi) (by omega)
  simp at hd
  exact this (by simpa using hd)
theorem cell5 {a b c d e : Nat} {j : Nat} (h : j < 5) : [Value.int .u32 a, .int .u32 b, .int .u32 c, .int .u32 d, .int .u32 e][j]? = some (.int .u32 ([a, b, c, d, e][j]'h)) := by
 have : j = 0 ∨ j = 1 ∨ j = 2 ∨ j = 3 ∨ j = 4 := by omega
 rcases this with rfl | rfl | rfl | rfl | rfl <;> rfl
def soaI (x : Ink) (r : fY) (j : Nat) : Ink := ([r.n1, r.n2, r.n3, r.n4, r.n5].take j).foldl (fun w n => w.put (be4 n)) x
theorem soaI_succ (x : Ink) (r : fY) {j : Nat} (h : j < 5) : soaI x r (j + 1) = (soaI x r j).put (be4 ([r.n1, r.n2, r.n3, r.n4, r.n5][j]'h)) := by
 unfold soaI
 rw [List.take_add_one, List.getElem?_eq_getElem (show j < [r.n1, r.n2, r.n3, r.n4, r.n5].length from h)]
 simp only [Option.toList_some, List.foldl_append, List.foldl_cons, List.foldl_nil]
theorem soaI_len (x : Ink) (r : fY) : ∀ j, j ≤ 5 → (soaI x r j).out.length = x.out.length + 4 * j
 | 0, _ => rfl
 | j + 1, h => by rw [soaI_succ x r h, fM, be4_len, soaI_len x r j (by omega)]; omega
section
variable {V V0 : Vw} {w w00 : World} {L : List (Nat × Obj)} {wb : Nat} {x : Ink} {r : fY} {k : Int} {vd vt vp : Value}
set_option maxHeartbeats 16000000 in
theorem n_body (hI : fZ ⟨w00, V0, V⟩ w L wb x) (hx : x.out.length ≤ 274877906944) (hkd : KindI r k) (hD : RBW V vd r.data) (hT : RTextsW V vt r.texts) (hP : RPairsW V vp r.pairs) (hf : FitS r) :
  eC Tryz.prog 52 #[.pointer (some ⟨wb, 0, none⟩), .agg (recK r k vd vt vp).toArray] w fun v w' => ∃ (ok : Bool) (x' : Ink), v = .bool ok ∧ fZ ⟨w00, V0, V⟩ w' L wb x' ∧ ((ok = true ∧ fT r x = some x') ∨ (ok = false ∧ fT r x = none)) := by
 have hf1 := hf.data
 have hf2 := hf.texts
 have hf3 := hf.pairs
 have hf4 := textsP_cnt r.texts
 have hf5 := pairsP_cnt r.pairs
 obtain ⟨at1, ct, rfl, _, hct⟩ := SlW.form hT
 obtain ⟨ys, hSP, hRP⟩ := hP
 obtain ⟨ap, cp, rfl, _, hcp⟩ := hSP.form
 obtain ⟨hok, Y, hY, hs⟩ := hI
 refine aT [_, _] Tryz.func52 Tryz.ntmps52 Tryz.results52 rfl rfl (dP (aJ (cR hs rfl rfl rfl (fun b3 w hb3 hbe3 hs => ?_))))
 have hI := hY.close (L := (b3, .cells (recK r k vd (.slice at1 r.texts.length ct) (.slice ap r.pairs.length cp)).toArray 30 (0, 0)) :: L) hok hs
 clear hs hY hok
 refine dN rfl rfl (aH (aF (dP (lp (aR fo_30_5 rfl) rfl (lp (aO rfl (aQ cH (hI.get (k := 0) rfl) rfl)) rfl (aH (bQ (dP (lp (bI rfl rfl) rfl (dN rfl rfl (aH (bH rfl (fun hc0 => ?_) (fun hc0 => ?_)))))))))))))
 have hk : r.kind = 1 := hkd.at (by omega) (by decide) (by decide)
 obtain ⟨hok, vb, vn, va, X, hX, hsl⟩ := hI.sl
 obtain ⟨Xb, hXb, hs⟩ := hsl.open
 refine e_draw (fun w2 => w2.heap[wb]? = some (.cells [vb, vn, va].toArray 74 (0, 0)) ∧ w2.heap[b3]? = some (.cells (recK r k vd (.slice at1 r.texts.length ct) (.slice ap r.pairs.length cp)).toArray 30 (0, 0))) [4, 6] mixed (fun w hw => ?_)
 replace hs := hw.st hs
 refine dI 0 rfl (fun w => aC rfl) rfl rfl (dI 1 rfl (fun w => aC rfl) rfl rfl (dI 2 rfl (fun w => aN rfl) rfl rfl (dI 3 rfl (fun w => aR fo_74_0 rfl) rfl rfl (dJ 4 rfl (⟨hs.g 0 rfl, hs.g 1 rfl⟩) rfl (fun w hf => (aO rfl (aQ k_23 hf.1 rfl))) rfl (dI 5 rfl (fun w => aR fo_30_6 rfl) rfl rfl (dJ 6 rfl (⟨hs.g 0 rfl, hs.g 1 rfl⟩) rfl (fun w hf => (aO rfl (aQ k_23 hf.2 rfl))) rfl (dL 7 rfl (cF (cD rfl rfl ok_119 (n_data hs.isIn hD 4 (by decide))) rfl (fun vD w HF => ?_)))))))))
 obtain ⟨bd, rfl, hbd, hc⟩ := HF
 have hbd' := Nat.le_trans hs.size hbd
 replace hs := hs.frameL hc (fun z hz => by simp at hz; subst hz; exact hbd)
 refine ⟨fun _ => ⟨hs.g 1 rfl, hs.g 2 rfl⟩, dL 8 rfl (fA (k := 4) (news := (padTo r.data 4).map eA) el_23 (.inr ⟨_, Tryz.underlying23⟩) (SlX.close (L := (bd, _) :: (wb, _) :: (((b3, _) :: L) ++ X)) hXb hs) rfl rfl (src_own (k := 0) hs rfl (by simp [padTo_len])) (dH _) (by omega) (by omega) rfl (fun vE w hs => ⟨fun _ => ⟨hs.st.get (k := 1) rfl, hs.st.get (k := 2) rfl⟩, ?_⟩))⟩
 replace hs := hs.drop hbd'
 refine dI 9 rfl (fun w => aN rfl) rfl rfl (dI 10 rfl (fun w => aR fo_74_0 rfl) rfl rfl (dL 11 rfl (o_storeS hs k_23 rfl rfl rfl hs.oneCell rfl (fun w hs => ⟨fun h => absurd h (by decide +kernel), bS (by decide +kernel) (dP (dN rfl rfl (aH (aV ⟨_, fW rfl, ?_⟩))))⟩))))
 exact ⟨true, _, rfl, (hX.close (L := (b3, _) :: L) (hok.put (padTo r.data 4)) (by rw [List.map_append]; exact hs)).drop hb3, .inl ⟨rfl, by simp only [fT, hk]; rfl⟩⟩
 refine dP (lp (bI rfl rfl) rfl (dN rfl rfl (aH (bH rfl (fun hc1 => ?_) (fun hc1 => ?_)))))
 have hk : r.kind = 8 := hkd.at (by omega) (by decide) (by decide)
 obtain ⟨hok, vb, vn, va, X, hX, hsl⟩ := hI.sl
 obtain ⟨Xb, hXb, hs⟩ := hsl.open
 refine e_draw (fun w2 => w2.heap[wb]? = some (.cells [vb, vn, va].toArray 74 (0, 0)) ∧ w2.heap[b3]? = some (.cells (recK r k vd (.slice at1 r.texts.length ct) (.slice ap r.pairs.length cp)).toArray 30 (0, 0))) [4, 6] mixed (fun w hw => ?_)
 replace hs := hw.st hs
 refine dI 0 rfl (fun w => aC rfl) rfl rfl (dI 1 rfl (fun w => aC rfl) rfl rfl (dI 2 rfl (fun w => aN rfl) rfl rfl (dI 3 rfl (fun w => aR fo_74_0 rfl) rfl rfl (dJ 4 rfl (⟨hs.g 0 rfl, hs.g 1 rfl⟩) rfl (fun w hf => (aO rfl (aQ k_23 hf.1 rfl))) rfl (dI 5 rfl (fun w => aR fo_30_6 rfl) rfl rfl (dJ 6 rfl (⟨hs.g 0 rfl, hs.g 1 rfl⟩) rfl (fun w hf => (aO rfl (aQ k_23 hf.2 rfl))) rfl (dL 7 rfl (cF (cD rfl rfl ok_119 (n_data hs.isIn hD 16 (by decide))) rfl (fun vD w HF => ?_)))))))))
 obtain ⟨bd, rfl, hbd, hc⟩ := HF
 have hbd' := Nat.le_trans hs.size hbd
 replace hs := hs.frameL hc (fun z hz => by simp at hz; subst hz; exact hbd)
 refine ⟨fun _ => ⟨hs.g 1 rfl, hs.g 2 rfl⟩, dL 8 rfl (fA (k := 16) (news := (padTo r.data 16).map eA) el_23 (.inr ⟨_, Tryz.underlying23⟩) (SlX.close (L := (bd, _) :: (wb, _) :: (((b3, _) :: L) ++ X)) hXb hs) rfl rfl (src_own (k := 0) hs rfl (by simp [padTo_len])) (dH _) (by omega) (by omega) rfl (fun vE w hs => ⟨fun _ => ⟨hs.st.get (k := 1) rfl, hs.st.get (k := 2) rfl⟩, ?_⟩))⟩
 replace hs := hs.drop hbd'
 refine dI 9 rfl (fun w => aN rfl) rfl rfl (dI 10 rfl (fun w => aR fo_74_0 rfl) rfl rfl (dL 11 rfl (o_storeS hs k_23 rfl rfl rfl hs.oneCell rfl (fun w hs => ⟨fun h => absurd h (by decide +kernel), bS (by decide +kernel) (dP (dN rfl rfl (aH (aV ⟨_, fW rfl, ?_⟩))))⟩))))
 exact ⟨true, _, rfl, (hX.close (L := (b3, _) :: L) (hok.put (padTo r.data 16)) (by rw [List.map_append]; exact hs)).drop hb3, .inl ⟨rfl, by simp only [fT, hk]; rfl⟩⟩
 refine dG (fun ρ w2 => w = w2 ∧ Sub (eH (eH (eH (eH emp 14 (.int .i64 k)) 3 (.pointer (some ⟨b3, 0, none⟩))) 0 (.pointer (some ⟨wb, 0, none⟩))) 41 (.bool (decide (k = 2 ∨ k = 3 ∨ k = 5)))) ρ) ?_ ?_
 refine dP (lp (bI rfl rfl) rfl (dN rfl rfl (aH (bH rfl (fun hc2 => ?_) (fun hc2 => ?_)))))
 refine aW ?_
 exact ⟨rfl, aL (by rw [show decide (k = 2 ∨ k = 3 ∨ k = 5) = true from decide_eq_true (.inl hc2)]; rw [show decide (k = 2) = true from decide_eq_true hc2] <;> rfl) (aL rfl (aL rfl (aL rfl (bG _))))⟩
 refine dP (lp (bI rfl rfl) rfl (dN rfl rfl (aH (bH rfl (fun hc3 => ?_) (fun hc3 => ?_)))))
 refine aW ?_
 exact ⟨rfl, aL (by rw [show decide (k = 2 ∨ k = 3 ∨ k = 5) = true from decide_eq_true (.inr (.inl hc3))]; rw [show decide (k = 3) = true from decide_eq_true hc3] <;> rfl) (aL rfl (aL rfl (aL rfl (bG _))))⟩
 refine aB (lp (bI rfl rfl) rfl (dN rfl rfl (aH ?_)))
 exact ⟨rfl, aL (by rw [show decide (k = 2 ∨ k = 3 ∨ k = 5) = decide (k = 5) from decide_eq_decide.2 ⟨fun h => (h.resolve_left hc2).resolve_left hc3, fun h => .inr (.inr h)⟩]; rfl) (aL rfl (aL rfl (aL rfl (bG _))))⟩
 rintro ρ w2 ⟨hw2, hsub⟩
 subst hw2
 refine EW.weaken hsub (bH rfl (fun hc4 => ?_) (fun hc4 => ?_))
 refine dP (dM rfl rfl (lp (aR fo_30_7 rfl) rfl (lp (aO rfl (aQ k_9 (hI.get (k := 0) rfl) rfl)) rfl (aZ ok_26 rfl rfl (n_fit hI.isIn r.host) rfl (fun v48 w HF => ?_)))))
 obtain ⟨rfl, hc⟩ := HF
 replace hI := hI.frame hc
 refine aZ ok_25 rfl rfl (n_name (short := true) hI (by omega) (eL _)) rfl (fun v49 w HF => ?_)
 obtain ⟨ok, x2, rfl, hI2, hr⟩ := HF
 refine dN rfl rfl (aH (aV ⟨_, fW rfl, ?_⟩))
 exact ⟨ok, x2, rfl, hI2.drop hb3, by
  rcases hc4 with h | h | h
  have hk : r.kind = 2 := hkd.at (n := 2) h (by decide) (by decide)
  simpa [fT, hk] using hr
  have hk : r.kind = 3 := hkd.at (n := 3) h (by decide) (by decide)
  simpa [fT, hk] using hr
  have hk : r.kind = 5 := hkd.at (n := 5) h (by decide) (by decide)
  simpa [fT, hk] using hr⟩
 refine dP (lp (bI rfl rfl) rfl (dN rfl rfl (aH (bH rfl (fun hc5 => ?_) (fun hc5 => ?_)))))
 have hk : r.kind = 6 := hkd.at (by omega) (by decide) (by decide)
 refine dP (dM rfl rfl (lp (aR fo_30_9 rfl) rfl (lp (aO rfl (aQ cB (hI.get (k := 0) rfl) rfl)) rfl (lp (bY Tryz.underlying27 Tryz.underlying22 rfl gB) rfl (aZ ok_24 rfl rfl (n_put2 hI (by omega) (r.n1 % 65536)) rfl (fun v56 w HF => ?_))))))
 obtain _ := HF
 rw [be2_mod] at HF
 replace hI := HF
 refine aH (dP (dM rfl rfl (lp (aR fo_30_7 rfl) rfl (lp (aO rfl (aQ k_9 (hI.get (k := 0) rfl) rfl)) rfl (aZ ok_26 rfl rfl (n_fit hI.isIn r.host) rfl (fun v60 w HF => ?_))))))
 obtain ⟨rfl, hc⟩ := HF
 replace hI := hI.frame hc
 refine aZ ok_25 rfl rfl (n_name (short := true) hI (by simp only [fM, eP]; omega) (eL _)) rfl (fun v61 w HF => ?_)
 obtain ⟨ok, x2, rfl, hI2, hr⟩ := HF
 refine dN rfl rfl (aH (aV ⟨_, fW rfl, ?_⟩))
 exact ⟨ok, x2, rfl, hI2.drop hb3, by simpa [fT, hk] using hr⟩
 refine dP (lp (bI rfl rfl) rfl (dN rfl rfl (aH (bH rfl (fun hc6 => ?_) (fun hc6 => ?_)))))
 have hk : r.kind = 9 := hkd.at (by omega) (by decide) (by decide)
 refine dP (dM rfl rfl (lp (aR fo_30_9 rfl) rfl (lp (aO rfl (aQ cB (hI.get (k := 0) rfl) rfl)) rfl (lp (bY Tryz.underlying27 Tryz.underlying22 rfl gB) rfl (aZ ok_24 rfl rfl (n_put2 hI (by omega) (r.n1 % 65536)) rfl (fun v68 w HF => ?_))))))
 obtain _ := HF
 rw [be2_mod] at HF
 replace hI := HF
 refine aH (dP (dM rfl rfl (lp (aR fo_30_10 rfl) rfl (lp (aO rfl (aQ cB (hI.get (k := 0) rfl) rfl)) rfl (lp (bY Tryz.underlying27 Tryz.underlying22 rfl gB) rfl (aZ ok_24 rfl rfl (n_put2 hI (by simp only [fM, eP]; omega) (r.n2 % 65536)) rfl (fun v73 w HF => ?_)))))))
 obtain _ := HF
 rw [be2_mod] at HF
 replace hI := HF
 refine aH (dP (dM rfl rfl (lp (aR fo_30_11 rfl) rfl (lp (aO rfl (aQ cB (hI.get (k := 0) rfl) rfl)) rfl (lp (bY Tryz.underlying27 Tryz.underlying22 rfl gB) rfl (aZ ok_24 rfl rfl (n_put2 hI (by simp only [fM, eP]; omega) (r.n3 % 65536)) rfl (fun v78 w HF => ?_)))))))
 obtain _ := HF
 rw [be2_mod] at HF
 replace hI := HF
 refine aH (dP (dM rfl rfl (lp (aR fo_30_7 rfl) rfl (lp (aO rfl (aQ k_9 (hI.get (k := 0) rfl) rfl)) rfl (aZ ok_26 rfl rfl (n_fit hI.isIn r.host) rfl (fun v82 w HF => ?_))))))
 obtain ⟨rfl, hc⟩ := HF
 replace hI := hI.frame hc
 refine aZ ok_25 rfl rfl (n_name (short := false) hI (by simp only [fM, eP]; omega) (eL _)) rfl (fun v83 w HF => ?_)
 obtain ⟨ok, x2, rfl, hI2, hr⟩ := HF
 refine dN rfl rfl (aH (aV ⟨_, fW rfl, ?_⟩))
 exact ⟨ok, x2, rfl, hI2.drop hb3, by simpa [fT, hk] using hr⟩
 refine dP (lp (bI rfl rfl) rfl (dN rfl rfl (aH (bH rfl (fun hc7 => ?_) (fun hc7 => ?_)))))
 have hk : r.kind = 4 := hkd.at (by omega) (by decide) (by decide)
 refine aF (dG (fun ρ w2 => ∃ (ok : Bool) (x2 : Ink), Sub (eH (eH (eH emp 99 (.bool (!ok))) 3 (.pointer (some ⟨b3, 0, none⟩))) 0 (.pointer (some ⟨wb, 0, none⟩))) ρ ∧ fZ ⟨w00, V0, V⟩ w2 ((b3, .cells (recK r k vd (.slice at1 r.texts.length ct) (.slice ap r.pairs.length cp)).toArray 30 (0, 0)) :: L) wb x2 ∧ ((ok = true ∧ (nameP true (eN r.host) x).bind (fun w => nameP true (eN r.box) w) = some x2) ∨ (ok = false ∧ (nameP true (eN r.host) x).bind (fun w => nameP true (eN r.box) w) = none))) ?_ ?_)
 refine aB (dM rfl rfl (lp (aR fo_30_7 rfl) rfl (lp (aO rfl (aQ k_9 (hI.get (k := 0) rfl) rfl)) rfl (aZ ok_26 rfl rfl (n_fit hI.isIn r.host) rfl (fun v89 w HF => ?_)))))
 obtain ⟨rfl, hc⟩ := HF
 replace hI := hI.frame hc
 refine aZ ok_25 rfl rfl (n_name (short := true) hI (by omega) (eL _)) rfl (fun v90 w HF => ?_)
 obtain ⟨ok1, x1, rfl, hI, hr1⟩ := HF
 cases ok1
 have hn1 : nameP true (eN r.host) x = none := (hr1.resolve_left (fun h => by cases h.1)).2
 refine lp (cS rfl) rfl (dM rfl rfl (aU rfl rfl rfl rfl (aU rfl rfl rfl rfl (aU rfl rfl rfl rfl (aU rfl rfl rfl rfl (aU rfl rfl rfl rfl (aU rfl rfl rfl rfl (lp (bO rfl rfl rfl) rfl (aH ?_)))))))))
 exact ⟨false, x1, (aL rfl (aL rfl (aL rfl (bG _)))), hI, .inr ⟨rfl, by rw [hn1]; rfl⟩⟩
 have hn1 : nameP true (eN r.host) x = some x1 := (hr1.resolve_right (fun h => by cases h.1)).2
 have hl1 := eW hn1
 have hfl := eL r.host
 refine lp (cS rfl) rfl (dM rfl rfl (lg rfl rfl rfl (aC rfl) rfl (lg rfl rfl rfl (aR fo_30_8 rfl) rfl (lg rfl rfl rfl (aO rfl (aQ k_9 (hI.get (k := 0) rfl) rfl)) rfl (cX rfl rfl rfl (cF (cD rfl rfl ok_26 (n_fit hI.isIn r.box)) rfl (fun vF w HF => ?_)))))))
 obtain ⟨rfl, hc⟩ := HF
 replace hI := hI.frame hc
 refine cX rfl rfl rfl (cF (cD rfl rfl ok_25 (n_name (short := true) hI (by omega) (eL _))) rfl (fun vF w HF => ?_))
 obtain ⟨ok, x2, rfl, hI2, hr⟩ := HF
 refine lg rfl rfl rfl (cS rfl) rfl (lp (bW rfl rfl rfl) rfl (aH ?_))
 exact ⟨ok, x2, (aL rfl (aL rfl (aL rfl (bG _)))), hI2, by rw [hn1]; exact hr⟩
 clear hI
 rintro ρ w2 ⟨ok, x2, hsub, hI, hr⟩
 refine EW.weaken hsub (bJ rfl (fun hc8 => ?_) (fun hc8 => ?_))
 obtain rfl : ok = false := by simpa using hc8
 refine dP (dN rfl rfl (aH (aV ⟨_, fW rfl, ?_⟩)))
 exact ⟨false, x2, rfl, hI.drop hb3, .inr ⟨rfl, by simp [fT, hk, (hr.resolve_left (fun h => by cases h.1)).2]⟩⟩
 obtain rfl : ok = true := by simpa using hc8
 have hn2 := (hr.resolve_right (fun h => by cases h.1)).2
 have hl2 : x2.out.length ≤ 274877908992 := by
  obtain ⟨x1, e1, e2⟩ := Option.bind_eq_some_iff.1 hn2
  have a1 := eW e1
  have a2 := eW e2
  have a3 := eL r.host
  have a4 := eL r.box
  omega
 obtain ⟨hok, Y, hY, hs⟩ := hI
 refine aW (dP (lp (aR fo_30_9 rfl) rfl (lp (aO rfl (aQ cB (hs.g 0 rfl) rfl)) rfl (lp (aR fo_30_10 rfl) rfl (lp (aO rfl (aQ cB (hs.g 0 rfl) rfl)) rfl (lp (aR fo_30_11 rfl) rfl (lp (aO rfl (aQ cB (hs.g 0 rfl) rfl)) rfl (lp (aR fo_30_12 rfl) rfl (lp (aO rfl (aQ cB (hs.g 0 rfl) rfl)) rfl (lp (aR fo_30_13 rfl) rfl (lp (aO rfl (aQ cB (hs.g 0 rfl) rfl)) rfl (aJ (o_bslice (vls := [[.int .u32 r.n1], [.int .u32 r.n2], [.int .u32 r.n3], [.int .u32 r.n4], [.int .u32 r.n5]]) el_232 hs rfl rfl rfl rfl (by simp) (by decide) (by decide) rfl (fun b110 w hb110 he110 hs => ?_))))))))))))))
 have hI := hY.close (L := (b110, .cells [Value.int .u32 r.n1, .int .u32 r.n2, .int .u32 r.n3, .int .u32 r.n4, .int .u32 r.n5].toArray 27 (0, 0)) :: (b3, .cells (recK r k vd (.slice at1 r.texts.length ct) (.slice ap r.pairs.length cp)).toArray 30 (0, 0)) :: L) hok hs
 clear hs hY hok
 refine lp (bC Tryz.underlying232 rfl) rfl (dM rfl rfl (aH (bQ (dC (fun j : Nat => eH (eH (eH (eH (eH emp 112 (.int .i64 j)) 111 (.int .i64 (5 : Nat))) 110 (.slice (some ⟨b110, 0, none⟩) 5 5)) 3 (.pointer (some ⟨b3, 0, none⟩))) 0 (.pointer (some ⟨wb, 0, none⟩))) (fun j w => fZ ⟨w00, V0, V⟩ w ((b110, .cells [Value.int .u32 r.n1, .int .u32 r.n2, .int .u32 r.n3, .int .u32 r.n4, .int .u32 r.n5].toArray 27 (0, 0)) :: (b3, .cells (recK r k vd (.slice at1 r.texts.length ct) (.slice ap r.pairs.length cp)).toArray 30 (0, 0)) :: L) wb (soaI x2 r j) ∧ j ≤ 5) (fun j => 5 - j) 0 (aL rfl (aL rfl (aL rfl (aL rfl (aL rfl (bG _)))))) ⟨hI, Nat.zero_le _⟩ ?_))))
 clear hI
 rintro j w ⟨hI, hj⟩
 refine dP (lp (cY rfl rfl) rfl (aH (aF (bH rfl (fun hc9 => ?_) (fun hc9 => ?_)))))
 have hjl : j < 5 := by omega
 have hsl := soaI_len x2 r j hj
 refine aW (aF (bQ (dP (lp (eZ j j es_232 rfl rfl rfl hjl (by omega)) rfl (lp (aO rfl (bR (v := .int .u32 ([r.n1, r.n2, r.n3, r.n4, r.n5][j]'hjl)) cB (by rw [cell_list (hI.get (k := 0) rfl)]; exact cell5 hjl))) rfl (dN rfl rfl (aH (aB (dM rfl rfl (dM rfl rfl (aZ ok_51 rfl rfl (n_put4 hI (by omega) ([r.n1, r.n2, r.n3, r.n4, r.n5][j]'hjl)) rfl (fun v118 w HF => ?_))))))))))))
 obtain _ := HF
 rw [← soaI_succ x2 r hjl] at HF
 replace hI := HF
 refine aH (aB (lp (bN rfl rfl (fV (c := j + 1) (by omega) (by omega))) rfl (dM rfl rfl (aH ?_))))
 exact ⟨j + 1, aL rfl (aL rfl (aL rfl (aL rfl (aL rfl (bG _))))), ⟨hI, hjl⟩, by omega⟩
 have hj5 : j = 5 := by omega
 subst hj5
 refine eT (dP (dN rfl rfl (aH (aV ⟨_, fW rfl, ?_⟩))))
 exact ⟨true, _, rfl, (hI.drop hb110).drop hb3, .inl ⟨rfl, by simp only [fT, hk, hn2]; rfl⟩⟩
 refine dP (lp (bI rfl rfl) rfl (dN rfl rfl (aH (bH rfl (fun hc10 => ?_) (fun hc10 => ?_)))))
 have hk : r.kind = 7 := hkd.at (by omega) (by decide) (by decide)
 refine dP (lp (aR fo_30_14 rfl) rfl (lp (aO rfl (aQ k_28 (hI.get (k := 0) rfl) rfl)) rfl (lp (bC Tryz.underlying28 rfl) rfl (dM rfl rfl (aH (bQ (dC (fun j : Nat => eH (eH (eH (eH (eH emp 125 (.int .i64 j)) 124 (.int .i64 r.texts.length)) 123 (.slice at1 r.texts.length ct)) 3 (.pointer (some ⟨b3, 0, none⟩))) 0 (.pointer (some ⟨wb, 0, none⟩))) (fun j w => fZ ⟨w00, V0, V⟩ w ((b3, .cells (recK r k vd (.slice at1 r.texts.length ct) (.slice ap r.pairs.length cp)).toArray 30 (0, 0)) :: L) wb (x.put (fE (r.texts.take j))) ∧ j ≤ r.texts.length ∧ ∀ i (hi : i < r.texts.length), i < j → r.texts[i].length ≤ 255) (fun j => r.texts.length - j) 0 (aL rfl (aL rfl (aL rfl (aL rfl (aL rfl (bG _)))))) ⟨by rw [List.take_zero]; show fZ _ _ _ _ (x.put []); rw [put_nil]; exact hI, Nat.zero_le _, fun i _ h => absurd h (by omega)⟩ ?_)))))))
 clear hI
 rintro j w ⟨hI, hj, hsh⟩
 have htl := textsP_le r.texts j
 refine dP (lp (cY rfl rfl) rfl (aH (aF (bH rfl (fun hc11 => ?_) (fun hc11 => ?_)))))
 have hjl : j < r.texts.length := by omega
 obtain ⟨b, p, rfl, hcells⟩ := hct (by omega)
 refine aW (aF (bQ (dP (lp (eZ j (p + j) es_28 rfl rfl rfl hjl (by omega)) rfl (lp (aO rfl (bR (v := fR r.texts[j]) k_9 (Vw.cell_in hI.isIn (hcells j _ (by simp [hjl]))))) rfl (dN rfl rfl (aH (aF (dP (dM rfl rfl (lp (po_lenS Tryz.underlying9 rfl) rfl (lp (cQ rfl rfl) rfl (aH ?_)))))))))))))
 refine bH rfl (fun hc12 => ?_) (fun hc12 => ?_)
 have hlong : 255 < r.texts[j].length := by omega
 refine dP (dN rfl rfl (aH (aV ⟨_, fW rfl, ?_⟩)))
 exact ⟨false, _, rfl, hI.drop hb3, .inr ⟨rfl, by simp only [fT, hk]; exact if_pos (long_any hjl hlong)⟩⟩
 have hshort : r.texts[j].length ≤ 255 := by omega
 refine aW ?_
 obtain ⟨hok, vb, vn, va, X, hX, hsl⟩ := hI.sl
 have hpl := fM x (fE (r.texts.take j))
 refine aB (dM rfl rfl (dM rfl rfl (lp (aN rfl) rfl (lp (aR fo_74_0 rfl) rfl (lp (aO rfl (aQ k_23 (hsl.st.get (k := 0) rfl) rfl)) rfl (dM rfl rfl (lp (po_lenS Tryz.underlying9 rfl) rfl (lp (bY Tryz.underlying3 Tryz.underlying5 rfl u8lo) rfl (l_appB [UInt8.ofNat r.texts[j].length] el_23 hsl (fun _ => rfl) rfl rfl rfl (by decide) (by decide) (by omega) (by omega) rfl rfl (fun b140 v141 w hs => ?_))))))))))
 skip
 refine dM rfl rfl (aJ (fA (k := r.texts[j].length) (news := r.texts[j].map eA) el_23 (.inl Tryz.underlying9) hs rfl rfl src_strV (dH _) (by omega) (by omega) rfl (fun v143 w hs => lp (aN rfl) rfl (lp (aR fo_74_0 rfl) rfl (aJ (o_storeS hs k_23 rfl rfl rfl hs.oneCell rfl (fun w hs => aH (aB (lp (bN rfl rfl (fV (c := j + 1) (by omega) (by omega))) rfl (dM rfl rfl (aH ?_)))))))))))
 have hI2 := hX.close (L := (b3, _) :: L) (hok.put (UInt8.ofNat r.texts[j].length :: r.texts[j])) (by rw [← List.map_append, List.append_assoc] at hs; exact hs)
 refine ⟨j + 1, aL rfl (aL rfl (aL rfl (aL rfl (aL rfl (bG _))))), ⟨?_, hjl, fun i hi hij => ?_⟩, by omega⟩
 rw [textsP_next hjl, ← gA]; exact hI2
 by_cases e : i = j
 subst e; exact hshort
 exact hsh i hi (by omega)
 have hjn : j = r.texts.length := by omega
 subst hjn
 rw [List.take_length] at hI
 refine eT (dP (dN rfl rfl (aH (aV ⟨_, fW rfl, ?_⟩))))
 exact ⟨true, _, rfl, hI.drop hb3, .inl ⟨rfl, by simp only [fT, hk]; exact if_neg (short_any fun i hi => hsh i hi hi)⟩⟩
 refine dP (lp (bI rfl rfl) rfl (dN rfl rfl (aH (bH rfl (fun hc13 => ?_) (fun hc13 => ?_)))))
 have hk : r.kind = 10 := hkd.at (by omega) (by decide) (by decide)
 refine dP (lp (aR fo_30_15 rfl) rfl (lp (aO rfl (aQ k_26 (hI.get (k := 0) rfl) rfl)) rfl (lp (bC Tryz.underlying26 rfl) rfl (dM rfl rfl (aH (bQ (dC (fun j : Nat => eH (eH (eH (eH (eH emp 152 (.int .i64 j)) 151 (.int .i64 r.pairs.length)) 150 (.slice ap r.pairs.length cp)) 3 (.pointer (some ⟨b3, 0, none⟩))) 0 (.pointer (some ⟨wb, 0, none⟩))) (fun j w => fZ ⟨w00, V0, V⟩ w ((b3, .cells (recK r k vd (.slice at1 r.texts.length ct) (.slice ap r.pairs.length cp)).toArray 30 (0, 0)) :: L) wb (x.put (eX (r.pairs.take j))) ∧ j ≤ r.pairs.length) (fun j => r.pairs.length - j) 0 (aL rfl (aL rfl (aL rfl (aL rfl (aL rfl (bG _)))))) ⟨by rw [List.take_zero]; show fZ _ _ _ _ (x.put []); rw [put_nil]; exact hI, Nat.zero_le _⟩ ?_)))))))
 clear hI
 rintro j w ⟨hI, hj⟩
 have htl := pairsP_le r.pairs j
 refine dP (lp (cY rfl rfl) rfl (aH (aF (bH rfl (fun hc14 => ?_) (fun hc14 => ?_)))))
 have hjl : j < r.pairs.length := by omega
 obtain ⟨b, p, rfl, hcells⟩ := hcp (by omega)
 obtain ⟨cq, ⟨vq, rfl, hRB⟩, hcl, hctt⟩ := hRP.at (List.getElem?_eq_getElem hjl)
 obtain ⟨ad, cd, rfl, _⟩ := SlW.form hRB
 have hpd := pairsP_le r.pairs (j + 1)
 have hpe := congrArg List.length (pairsP_next hjl)
 simp only [List.length_append, eP] at hpe
 obtain ⟨hok, Y, hY, hs⟩ := hI
 refine aW (aF (bQ (dP (lp (eZ j (p + j * 2) es_26 rfl rfl rfl hjl rfl) rfl ?_))))
 refine lp (aO rfl (ld_cells (l := [.int .u16 r.pairs[j].key, .slice ad r.pairs[j].data.length cd]) k_25 rfl (fun i u hu => by
  rw [Nat.add_assoc]
  exact Vw.cell_in hs.isIn (hcells _ _ (fN hctt hu))))) rfl ?_
 refine aJ (aX hs z_25 rfl (fun b10 w hb10 he10 hs => aJ (dR 0 hs k_25 rfl rfl rfl rfl rfl (aG rfl) rfl (fun w hs => ?_))))
 have hI := hY.close (L := (b10, _) :: (b3, _) :: L) hok hs
 clear hs hY hok
 refine aH (dP (dM rfl rfl (lp (aR fo_25_0 rfl) rfl (lp (aO rfl (aQ eS (hI.get (k := 0) rfl) rfl)) rfl (aZ ok_24 rfl rfl (n_put2 hI (by simp only [fM, eP]; omega) r.pairs[j].key) rfl (fun v159 w HF => ?_))))))
 obtain _ := HF
 replace hI := HF
 refine aH (dP (dM rfl rfl (lp (aR fo_25_1 rfl) rfl (lp (aO rfl (aQ k_23 (hI.get (k := 0) rfl) rfl)) rfl (lp (bC Tryz.underlying23 rfl) rfl (lp (bY Tryz.underlying3 Tryz.underlying22 rfl gB) rfl (aZ ok_24 rfl rfl (n_put2 hI (by simp only [fM, eP]; omega) (r.pairs[j].data.length % 65536)) rfl (fun v165 w HF => ?_))))))))
 obtain _ := HF
 rw [be2_mod] at HF
 replace hI := HF
 refine aH ?_
 obtain ⟨hok, vb, vn, va, X, hX, hsl⟩ := hI.sl
 obtain ⟨Xb, hXb, hs⟩ := hsl.open
 refine e_draw (fun w2 => w2.heap[wb]? = some (.cells [vb, vn, va].toArray 74 (0, 0)) ∧ w2.heap[b10]? = some (.cells [Value.int .u16 r.pairs[j].key, .slice ad r.pairs[j].data.length cd].toArray 25 (0, 0))) [4, 6] mixed (fun w hw => ?_)
 replace hs := hw.st hs
 refine dI 0 rfl (fun w => aC rfl) rfl rfl (dI 1 rfl (fun w => aC rfl) rfl rfl (dI 2 rfl (fun w => aN rfl) rfl rfl (dI 3 rfl (fun w => aR fo_74_0 rfl) rfl rfl (dJ 4 rfl (⟨hs.g 0 rfl, hs.g 1 rfl⟩) rfl (fun w hf => (aO rfl (aQ k_23 hf.1 rfl))) rfl (dI 5 rfl (fun w => aR fo_25_1 rfl) rfl rfl (dJ 6 rfl (⟨hs.g 0 rfl, hs.g 1 rfl⟩) rfl (fun w hf => (aO rfl (aQ k_23 hf.2 rfl))) rfl (dL 7 rfl (fA (k := r.pairs[j].data.length) (news := r.pairs[j].data.map eA) el_23 (.inr ⟨_, Tryz.underlying23⟩) (SlX.close (L := (wb, _) :: (((b10, _) :: (b3, _) :: L) ++ X)) hXb hs) rfl rfl ((show RBW V _ r.pairs[j].data from hRB).src hs.isIn) (dH _) (by (simp only [fM, eP]; omega)) (by (simp only [fM, eP]; omega)) rfl (fun vE w hs => ⟨fun _ => ⟨hs.st.get (k := 0) rfl, hs.st.get (k := 1) rfl⟩, dI 8 rfl (fun w => aN rfl) rfl rfl (dI 9 rfl (fun w => aR fo_74_0 rfl) rfl rfl (dL 10 rfl (o_storeS hs k_23 rfl rfl rfl hs.oneCell rfl (fun w hs => ⟨fun h => absurd h (by decide +kernel), bS (by decide +kernel) ?_⟩))))⟩)))))))))
 refine aB (lp (bN rfl rfl (fV (c := j + 1) (by omega) (by omega))) rfl (dM rfl rfl (aH ?_)))
 have hI2 := hX.close (L := (b10, _) :: (b3, _) :: L) (hok.put r.pairs[j].data) (by rw [← List.map_append] at hs; exact hs)
 refine ⟨j + 1, aL rfl (aL rfl (aL rfl (aL rfl (aL rfl (bG _))))), ⟨?_, hjl⟩, by omega⟩
 rw [pairsP_next hjl, ← gA, ← gA, ← gA]; exact hI2.drop hb10
 have hjn : j = r.pairs.length := by omega
 subst hjn
 rw [List.take_length] at hI
 refine eT (dP (dN rfl rfl (aH (aV ⟨_, fW rfl, ?_⟩))))
 exact ⟨true, _, rfl, hI.drop hb3, .inl ⟨rfl, by simp only [fT, hk]⟩⟩
 refine dG (fun ρ w2 => w = w2 ∧ Sub (eH (eH (eH (eH emp 14 (.int .i64 k)) 3 (.pointer (some ⟨b3, 0, none⟩))) 0 (.pointer (some ⟨wb, 0, none⟩))) 177 (.bool (decide (k = 11 ∨ k = 12)))) ρ) ?_ ?_
 refine dP (lp (bI rfl rfl) rfl (dN rfl rfl (aH (bH rfl (fun hc15 => ?_) (fun hc15 => ?_)))))
 refine aW ?_
 exact ⟨rfl, aL (by rw [show decide (k = 11 ∨ k = 12) = true from decide_eq_true (.inl hc15)]; rw [show decide (k = 11) = true from decide_eq_true hc15] <;> rfl) (aL rfl (aL rfl (aL rfl (bG _))))⟩
 refine aB (lp (bI rfl rfl) rfl (dN rfl rfl (aH ?_)))
 exact ⟨rfl, aL (by rw [show decide (k = 11 ∨ k = 12) = decide (k = 12) from decide_eq_decide.2 ⟨fun h => h.resolve_left hc15, fun h => .inr h⟩]; rfl) (aL rfl (aL rfl (aL rfl (bG _))))⟩
 rintro ρ w2 ⟨hw2, hsub⟩
 subst hw2
 refine EW.weaken hsub (bH rfl (fun hc16 => ?_) (fun hc16 => ?_))
 have hk : r.kind = 11 ∨ r.kind = 12 := hc16.imp (fun h => hkd.at (n := 11) h (by decide) (by decide)) (fun h => hkd.at (n := 12) h (by decide) (by decide))
 refine dP (dM rfl rfl (lp (aR fo_30_9 rfl) rfl (lp (aO rfl (aQ cB (hI.get (k := 0) rfl) rfl)) rfl (lp (bY Tryz.underlying27 Tryz.underlying22 rfl gB) rfl (aZ ok_24 rfl rfl (n_put2 hI (by omega) (r.n1 % 65536)) rfl (fun v184 w HF => ?_))))))
 obtain _ := HF
 rw [be2_mod] at HF
 replace hI := HF
 refine aH (aF (dP (dM rfl rfl (lp (aR fo_30_7 rfl) rfl (lp (aO rfl (aQ k_9 (hI.get (k := 0) rfl) rfl)) rfl (aZ ok_26 rfl rfl (n_fit hI.isIn r.host) rfl (fun v188 w HF => ?_)))))))
 obtain ⟨rfl, hc⟩ := HF
 replace hI := hI.frame hc
 refine aZ ok_25 rfl rfl (n_name (short := false) hI (by simp only [fM, eP]; omega) (eL _)) rfl (fun v189 w HF => ?_)
 obtain ⟨ok, y, rfl, hI, hr⟩ := HF
 refine lp (cS rfl) rfl (aH (bJ rfl (fun hc17 => ?_) (fun hc17 => ?_)))
 obtain rfl : ok = false := by simpa using hc17
 have hn := (hr.resolve_left (fun h => by cases h.1)).2
 refine dP (dN rfl rfl (aH (aV ⟨_, fW rfl, ?_⟩)))
 exact ⟨false, y, rfl, hI.drop hb3, .inr ⟨rfl, by rcases hk with hk | hk <;> simp [fT, hk, hn]⟩⟩
 obtain rfl : ok = true := by simpa using hc17
 have hn := (hr.resolve_right (fun h => by cases h.1)).2
 have hyl : y.out.length ≤ 274877908992 := by
  have a1 := eW hn
  rw [fM, eP] at a1
  have a3 := eL r.host
  omega
 refine aW (dP (lp (aR fo_30_15 rfl) rfl (lp (aO rfl (aQ k_26 (hI.get (k := 0) rfl) rfl)) rfl (lp (bC Tryz.underlying26 rfl) rfl (dM rfl rfl (aH (bQ (dC (fun j : Nat => eH (eH (eH (eH (eH emp 194 (.int .i64 j)) 193 (.int .i64 r.pairs.length)) 192 (.slice ap r.pairs.length cp)) 3 (.pointer (some ⟨b3, 0, none⟩))) 0 (.pointer (some ⟨wb, 0, none⟩))) (fun j w => fZ ⟨w00, V0, V⟩ w ((b3, .cells (recK r k vd (.slice at1 r.texts.length ct) (.slice ap r.pairs.length cp)).toArray 30 (0, 0)) :: L) wb (y.put (eX (r.pairs.take j))) ∧ j ≤ r.pairs.length ∧ ∀ i (hi : i < r.pairs.length), i < j → 0 < i → r.pairs[i].key ≠ 0) (fun j => r.pairs.length - j) 0 (aL rfl (aL rfl (aL rfl (aL rfl (aL rfl (bG _)))))) ⟨by rw [List.take_zero]; show fZ _ _ _ _ (y.put []); rw [put_nil]; exact hI, Nat.zero_le _, fun i _ h => absurd h (by omega)⟩ ?_))))))))
 clear hI
 rintro j w ⟨hI, hj, hnz⟩
 have htl := pairsP_le r.pairs j
 refine dP (lp (cY rfl rfl) rfl (aH (aF (bH rfl (fun hc18 => ?_) (fun hc18 => ?_)))))
 have hjl : j < r.pairs.length := by omega
 obtain ⟨b, p, rfl, hcells⟩ := hcp (by omega)
 obtain ⟨cq, ⟨vq, rfl, hRB⟩, hcl, hctt⟩ := hRP.at (List.getElem?_eq_getElem hjl)
 obtain ⟨ad, cd, rfl, _⟩ := SlW.form hRB
 have hpd := pairsP_le r.pairs (j + 1)
 have hpe := congrArg List.length (pairsP_next hjl)
 simp only [List.length_append, eP] at hpe
 obtain ⟨hok, Y, hY, hs⟩ := hI
 refine aW (aF (bQ (dP (dM rfl rfl (lp (eZ j (p + j * 2) es_26 rfl rfl rfl hjl rfl) rfl ?_)))))
 refine lp (aO rfl (ld_cells (l := [.int .u16 r.pairs[j].key, .slice ad r.pairs[j].data.length cd]) k_25 rfl (fun i u hu => by
  rw [Nat.add_assoc]
  exact Vw.cell_in hs.isIn (hcells _ _ (fN hctt hu))))) rfl ?_
 refine aJ (aX hs z_25 rfl (fun b12 w hb12 he12 hs => dN rfl rfl (aJ (dR 0 hs k_25 rfl rfl rfl rfl rfl (aG rfl) rfl (fun w hs => ?_)))))
 have hI := hY.close (L := (b12, _) :: (b3, _) :: L) hok hs
 clear hs hY hok
 refine aH (aF (aF ?_))
 rcases Nat.eq_zero_or_pos j with hj0 | hj0
 refine aB (dM rfl rfl (lp (po_gtrF rfl rfl (by omega)) rfl (dM rfl rfl (aU rfl rfl rfl rfl (aU rfl rfl rfl rfl (aU rfl rfl rfl rfl (lp (bW rfl rfl rfl) rfl (aH (aY rfl rfl (aW (dP (dM rfl rfl (lp (aR fo_25_0 rfl) rfl ?_)))))))))))))
 refine lp (aO rfl (aQ eS (hI.get (k := 0) rfl) rfl)) rfl (aZ ok_24 rfl rfl (n_put2 hI (by simp only [fM, eP]; omega) r.pairs[j].key) rfl (fun v209 w HF => ?_))
 obtain _ := HF
 replace hI := HF
 refine aH (dP (dM rfl rfl (lp (aR fo_25_1 rfl) rfl (lp (aO rfl (aQ k_23 (hI.get (k := 0) rfl) rfl)) rfl (lp (bC Tryz.underlying23 rfl) rfl (lp (bY Tryz.underlying3 Tryz.underlying22 rfl gB) rfl (aZ ok_24 rfl rfl (n_put2 hI (by simp only [fM, eP]; omega) (r.pairs[j].data.length % 65536)) rfl (fun v215 w HF => ?_))))))))
 obtain _ := HF
 rw [be2_mod] at HF
 replace hI := HF
 refine aH ?_
 obtain ⟨hok, vb, vn, va, X, hX, hsl⟩ := hI.sl
 obtain ⟨Xb, hXb, hs⟩ := hsl.open
 refine e_draw (fun w2 => w2.heap[wb]? = some (.cells [vb, vn, va].toArray 74 (0, 0)) ∧ w2.heap[b12]? = some (.cells [Value.int .u16 r.pairs[j].key, .slice ad r.pairs[j].data.length cd].toArray 25 (0, 0))) [4, 6] mixed (fun w hw => ?_)
 replace hs := hw.st hs
 refine dI 0 rfl (fun w => aC rfl) rfl rfl (dI 1 rfl (fun w => aC rfl) rfl rfl (dI 2 rfl (fun w => aN rfl) rfl rfl (dI 3 rfl (fun w => aR fo_74_0 rfl) rfl rfl (dJ 4 rfl (⟨hs.g 0 rfl, hs.g 1 rfl⟩) rfl (fun w hf => (aO rfl (aQ k_23 hf.1 rfl))) rfl (dI 5 rfl (fun w => aR fo_25_1 rfl) rfl rfl (dJ 6 rfl (⟨hs.g 0 rfl, hs.g 1 rfl⟩) rfl (fun w hf => (aO rfl (aQ k_23 hf.2 rfl))) rfl (dL 7 rfl (fA (k := r.pairs[j].data.length) (news := r.pairs[j].data.map eA) el_23 (.inr ⟨_, Tryz.underlying23⟩) (SlX.close (L := (wb, _) :: (((b12, _) :: (b3, _) :: L) ++ X)) hXb hs) rfl rfl ((show RBW V _ r.pairs[j].data from hRB).src hs.isIn) (dH _) (by (simp only [fM, eP]; omega)) (by (simp only [fM, eP]; omega)) rfl (fun vE w hs => ⟨fun _ => ⟨hs.st.get (k := 0) rfl, hs.st.get (k := 1) rfl⟩, dI 8 rfl (fun w => aN rfl) rfl rfl (dI 9 rfl (fun w => aR fo_74_0 rfl) rfl rfl (dL 10 rfl (o_storeS hs k_23 rfl rfl rfl hs.oneCell rfl (fun w hs => ⟨fun h => absurd h (by decide +kernel), bS (by decide +kernel) ?_⟩))))⟩)))))))))
 refine aB (lp (bN rfl rfl (fV (c := j + 1) (by omega) (by omega))) rfl (dM rfl rfl (aH ?_)))
 have hI2 := hX.close (L := (b12, _) :: (b3, _) :: L) (hok.put r.pairs[j].data) (by rw [← List.map_append] at hs; exact hs)
 refine ⟨j + 1, aL rfl (aL rfl (aL rfl (aL rfl (aL rfl (bG _))))), ⟨?_, hjl, fun i hi hij h0 => ?_⟩, by omega⟩
 rw [pairsP_next hjl, ← gA, ← gA, ← gA]; exact hI2.drop hb12
 by_cases e : i = j
 subst e; omega
 exact hnz i hi (by omega) h0
 refine aB (dM rfl rfl (lp (po_gtrT rfl rfl (by omega)) rfl (dM rfl rfl (lg rfl rfl rfl (aR fo_25_0 rfl) rfl (lg rfl rfl rfl (aO rfl (aQ eS (hI.get (k := 0) rfl) rfl)) rfl (lg rfl rfl rfl (bI rfl rfl) rfl (lp (bO rfl rfl rfl) rfl (aH (bH rfl (fun hc20 => ?_) (fun hc20 => ?_))))))))))
 have hz0 : r.pairs[j].key = 0 := by omega
 refine dP (dN rfl rfl (aH (aV ⟨_, fW rfl, ?_⟩)))
 exact ⟨false, _, rfl, (hI.drop hb12).drop hb3, .inr ⟨rfl, by rcases hk with hk | hk <;> simp only [fT, hk, hn, Option.bind_some] <;> exact if_pos (zero_any hjl hj0 hz0)⟩⟩
 refine aW (dP (dM rfl rfl (lp (aR fo_25_0 rfl) rfl (lp (aO rfl (aQ eS (hI.get (k := 0) rfl) rfl)) rfl (aZ ok_24 rfl rfl (n_put2 hI (by simp only [fM, eP]; omega) r.pairs[j].key) rfl (fun v209 w HF => ?_))))))
 obtain _ := HF
 replace hI := HF
 refine aH (dP (dM rfl rfl (lp (aR fo_25_1 rfl) rfl (lp (aO rfl (aQ k_23 (hI.get (k := 0) rfl) rfl)) rfl (lp (bC Tryz.underlying23 rfl) rfl (lp (bY Tryz.underlying3 Tryz.underlying22 rfl gB) rfl (aZ ok_24 rfl rfl (n_put2 hI (by simp only [fM, eP]; omega) (r.pairs[j].data.length % 65536)) rfl (fun v215 w HF => ?_))))))))
 obtain _ := HF
 rw [be2_mod] at HF
 replace hI := HF
 refine aH ?_
 obtain ⟨hok, vb, vn, va, X, hX, hsl⟩ := hI.sl
 obtain ⟨Xb, hXb, hs⟩ := hsl.open
 refine e_draw (fun w2 => w2.heap[wb]? = some (.cells [vb, vn, va].toArray 74 (0, 0)) ∧ w2.heap[b12]? = some (.cells [Value.int .u16 r.pairs[j].key, .slice ad r.pairs[j].data.length cd].toArray 25 (0, 0))) [4, 6] mixed (fun w hw => ?_)
 replace hs := hw.st hs
 refine dI 0 rfl (fun w => aC rfl) rfl rfl (dI 1 rfl (fun w => aC rfl) rfl rfl (dI 2 rfl (fun w => aN rfl) rfl rfl (dI 3 rfl (fun w => aR fo_74_0 rfl) rfl rfl (dJ 4 rfl (⟨hs.g 0 rfl, hs.g 1 rfl⟩) rfl (fun w hf => (aO rfl (aQ k_23 hf.1 rfl))) rfl (dI 5 rfl (fun w => aR fo_25_1 rfl) rfl rfl (dJ 6 rfl (⟨hs.g 0 rfl, hs.g 1 rfl⟩) rfl (fun w hf => (aO rfl (aQ k_23 hf.2 rfl))) rfl (dL 7 rfl (fA (k := r.pairs[j].data.length) (news := r.pairs[j].data.map eA) el_23 (.inr ⟨_, Tryz.underlying23⟩) (SlX.close (L := (wb, _) :: (((b12, _) :: (b3, _) :: L) ++ X)) hXb hs) rfl rfl ((show RBW V _ r.pairs[j].data from hRB).src hs.isIn) (dH _) (by (simp only [fM, eP]; omega)) (by (simp only [fM, eP]; omega)) rfl (fun vE w hs => ⟨fun _ => ⟨hs.st.get (k := 0) rfl, hs.st.get (k := 1) rfl⟩, dI 8 rfl (fun w => aN rfl) rfl rfl (dI 9 rfl (fun w => aR fo_74_0 rfl) rfl rfl (dL 10 rfl (o_storeS hs k_23 rfl rfl rfl hs.oneCell rfl (fun w hs => ⟨fun h => absurd h (by decide +kernel), bS (by decide +kernel) ?_⟩))))⟩)))))))))
 refine aB (lp (bN rfl rfl (fV (c := j + 1) (by omega) (by omega))) rfl (dM rfl rfl (aH ?_)))
 have hI2 := hX.close (L := (b12, _) :: (b3, _) :: L) (hok.put r.pairs[j].data) (by rw [← List.map_append] at hs; exact hs)
 refine ⟨j + 1, aL rfl (aL rfl (aL rfl (aL rfl (aL rfl (bG _))))), ⟨?_, hjl, fun i hi hij h0 => ?_⟩, by omega⟩
 rw [pairsP_next hjl, ← gA, ← gA, ← gA]; exact hI2.drop hb12
 by_cases e : i = j
 subst e; exact fun h => hc20 (by rw [h]; rfl)
 exact hnz i hi (by omega) h0
 have hjn : j = r.pairs.length := by omega
 subst hjn
 rw [List.take_length] at hI
 refine eT (dP (dN rfl rfl (aH (aV ⟨_, fW rfl, ?_⟩))))
 exact ⟨true, _, rfl, hI.drop hb3, .inl ⟨rfl, by rcases hk with hk | hk <;> simp only [fT, hk, hn, Option.bind_some] <;> exact if_neg (nozero_any fun i hi h0 => hnz i hi hi h0)⟩⟩
 refine dP (lp (bI rfl rfl) rfl (dN rfl rfl (aH (bH rfl (fun hc21 => ?_) (fun hc21 => ?_)))))
 have hk : r.kind = 13 := hkd.at (by omega) (by decide) (by decide)
 obtain ⟨hok, vb, vn, va, X, hX, hsl⟩ := hI.sl
 obtain ⟨Xb, hXb, hs⟩ := hsl.open
 refine e_draw (fun w2 => w2.heap[wb]? = some (.cells [vb, vn, va].toArray 74 (0, 0)) ∧ w2.heap[b3]? = some (.cells (recK r k vd (.slice at1 r.texts.length ct) (.slice ap r.pairs.length cp)).toArray 30 (0, 0))) [4, 6] mixed (fun w hw => ?_)
 replace hs := hw.st hs
 refine dI 0 rfl (fun w => aC rfl) rfl rfl (dI 1 rfl (fun w => aC rfl) rfl rfl (dI 2 rfl (fun w => aN rfl) rfl rfl (dI 3 rfl (fun w => aR fo_74_0 rfl) rfl rfl (dJ 4 rfl (⟨hs.g 0 rfl, hs.g 1 rfl⟩) rfl (fun w hf => (aO rfl (aQ k_23 hf.1 rfl))) rfl (dI 5 rfl (fun w => aR fo_30_6 rfl) rfl rfl (dJ 6 rfl (⟨hs.g 0 rfl, hs.g 1 rfl⟩) rfl (fun w hf => (aO rfl (aQ k_23 hf.2 rfl))) rfl (dL 7 rfl (fA (k := r.data.length) (news := r.data.map eA) el_23 (.inr ⟨_, Tryz.underlying23⟩) (SlX.close (L := (wb, _) :: (((b3, _) :: L) ++ X)) hXb hs) rfl rfl (hD.src hs.isIn) (dH _) (by omega) (by omega) rfl (fun vE w hs => ⟨fun _ => ⟨hs.st.get (k := 0) rfl, hs.st.get (k := 1) rfl⟩, dI 8 rfl (fun w => aN rfl) rfl rfl (dI 9 rfl (fun w => aR fo_74_0 rfl) rfl rfl (dL 10 rfl (o_storeS hs k_23 rfl rfl rfl hs.oneCell rfl (fun w hs => ⟨fun h => absurd h (by decide +kernel), bS (by decide +kernel) ?_⟩))))⟩)))))))))
 refine dP (dN rfl rfl (aH (aV ⟨_, fW rfl, ?_⟩)))
 exact ⟨true, _, rfl, (hX.close (L := (b3, _) :: L) (hok.put r.data) (by rw [List.map_append]; exact hs)).drop hb3, .inl ⟨rfl, by simp only [fT, hk]; rfl⟩⟩
 refine dP (dN rfl rfl (aH (aV ⟨_, fW rfl, ?_⟩)))
 exact ⟨false, x, rfl, hI.drop hb3, .inr ⟨rfl, by
  have hk : r.kind = 0 := by
   rcases hkd with ⟨h1, h2, h3⟩ | ⟨h, _⟩
   omega
   exact h
  simp [fT, hk]⟩⟩
end
end Go.Proofs.YtgpfjlfkaoffeaaGreatDoor

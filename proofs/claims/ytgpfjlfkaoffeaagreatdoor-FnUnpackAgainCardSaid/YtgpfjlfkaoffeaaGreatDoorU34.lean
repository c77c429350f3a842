/- The reference's packing: names. The reference's packing: a record in memory, its type, bytes filled up. -/
import Derived.Test.YtgpfjlfkaoffeaaGreatDoorU33
import Derived.Test.YtgpfjlfkaoffeaaGreatDoorU23
import Derived.Test.YtgpfjlfkaoffeaaGreatDoorU26
set_option linter.all false
namespace Go.Proofs.YtgpfjlfkaoffeaaGreatDoor
open Go
theorem lab_dot : ∀ {s : List UInt8}, s ≠ [] → s.getLast? = some 46 → (eO s).length < s.length ∧ eB s (eO s).length = 46 ∧ (∀ j, j < (eO s).length → eB s j ≠ 46) ∧ eO s = s.take (eO s).length
 | [], h, _ => absurd rfl h
 | a :: l, _, hl => by
  by_cases ha : a = 46
  subst ha
  have e : eO (46 :: l) = [] := by simp [eO]
  rw [e]
  exact ⟨by simp, by simp [eB], fun j hj => absurd hj (by simp), rfl⟩
  have hne : l ≠ [] := fun e => by subst e; simp at hl; exact ha hl
  have hl2 : l.getLast? = some 46 := by
   rw [List.getLast?_cons] at hl
   cases hq : l.getLast? with
   | none => exact absurd (List.getLast?_eq_none_iff.1 hq) hne
   | some q => rw [hq] at hl; simpa using hl
  obtain ⟨h1, h2, h3, h4⟩ := lab_dot hne hl2
  have e : eO (a :: l) = a :: eO l := by
   unfold eO
   rw [List.takeWhile_cons_of_pos (by simpa using ha)]
  rw [e]
  refine ⟨by simp only [List.length_cons]; omega, by simpa [eB] using h2, fun j hj => ?_, by rw [List.length_cons, List.take_succ_cons, ← h4]⟩
  cases j with
  | zero => exact fun h => ha (UInt8.toNat_inj.1 (by simpa [eB] using h))
  | succ j =>
   have := h3 j (by simp only [List.length_cons] at hj; omega)
   simpa [eB] using this
theorem last46 {s : List UInt8} (h0 : 0 < s.length) (hl : eB s (s.length - 1) = 46) : s.getLast? = some 46 := by
 rw [List.getLast?_eq_getElem?]
 unfold eB at hl
 have hx : s[s.length - 1]? = some s[s.length - 1] := List.getElem?_eq_getElem (by omega)
 rw [hx]
 rw [List.getD_eq_getElem?_getD, hx] at hl
 exact congrArg some (UInt8.toNat_inj.1 hl)
theorem drop46 {s : List UInt8} {k : Nat} (h : s.getLast? = some 46) : s.drop k = [] ∨ (s.drop k).getLast? = some 46 := by
 rcases Nat.lt_or_ge k s.length with hk | hk
 exact .inr (by rw [List.getLast?_drop, if_neg (by omega)]; exact h)
 exact .inl (List.drop_eq_nil_iff.2 hk)
theorem tblAt_none {t : List (List UInt8 × Nat)} {s : List UInt8} (h : ∀ j (hj : j < t.length), t[j].1 ≠ s) : tblAt t s = none := by
 unfold tblAt
 rw [List.find?_eq_none.2 fun e he => ?_]
 rfl
 obtain ⟨j, hj, rfl⟩ := List.getElem_of_mem he
 simpa using h j hj
theorem tblAt_first : ∀ {t : List (List UInt8 × Nat)} {s : List UInt8} {k : Nat} (hk : k < t.length), (∀ j (hj : j < t.length), j < k → t[j].1 ≠ s) → t[k].1 = s → tblAt t s = some t[k].2
 | [], _, _, hk, _, _ => absurd hk (by simp)
 | e :: t, s, 0, _, _, he => by
  have he' : e.1 = s := he
  unfold tblAt
  rw [List.find?_cons_of_pos (by simpa using he')]
  rfl
 | e :: t, s, k + 1, hk, hn, he => by
  have h0 : e.1 ≠ s := hn 0 (by simp) (by omega)
  have := tblAt_first (t := t) (s := s) (k := k) (by simpa using hk) (fun j hj hjk => hn (j + 1) (by simpa using hj) (by omega)) he
  unfold tblAt at this ⊢
  rw [List.find?_cons_of_neg (by simpa using h0)]
  exact this
theorem be2_ptr (p : Nat) : be2 (49152 + p) = [UInt8.ofNat (192 + p / 256), UInt8.ofNat p] := by
 have e2 : UInt8.ofNat (49152 + p) = UInt8.ofNat p := UInt8.toNat_inj.1 (by rw [UInt8.toNat_ofNat', UInt8.toNat_ofNat']; omega)
 unfold be2
 rw [e2, show (49152 + p) / 256 = 192 + p / 256 by omega]
section
variable {V V0 : Vw} {w w00 : World} {L : List (Nat × Obj)} {wb : Nat} {x : Ink} {s : List UInt8} {short : Bool}
set_option maxHeartbeats 8000000 in
theorem n_name (hI : fZ ⟨w00, V0, V⟩ w L wb x) (hx : x.out.length ≤ 549755813888) (hs255 : s.length ≤ 255) :
  eC Tryz.prog 25 #[.pointer (some ⟨wb, 0, none⟩), fR s, .bool short] w fun v w' => ∃ (ok : Bool) (x' : Ink), v = .bool ok ∧ fZ ⟨w00, V0, V⟩ w' L wb x' ∧ ((ok = true ∧ nameP short s x = some x') ∨ (ok = false ∧ nameP short s x = none)) := by
 refine aT [_, _, _] Tryz.func25 Tryz.ntmps25 Tryz.results25 rfl rfl (dP (dN rfl rfl (aH (aF (aF ?_)))))
 rcases (by omega : 254 < s.length ∨ s.length = 0 ∨ (s.length ≤ 254 ∧ 0 < s.length)) with h1 | h1 | ⟨h1, h2⟩
 refine aB (dM rfl rfl (lp (po_lenS Tryz.underlying9 rfl) rfl (lp (po_gtrT rfl rfl (by omega)) rfl (dM rfl rfl (aU rfl rfl rfl rfl (aU rfl rfl rfl rfl (lp (bO rfl rfl rfl) rfl (dM rfl rfl (aU rfl rfl rfl rfl (aU rfl rfl rfl rfl (aU rfl rfl rfl rfl (aU rfl rfl rfl rfl (aU rfl rfl rfl rfl ?_)))))))))))))
 refine aU rfl rfl rfl rfl (lp (bO rfl rfl rfl) rfl (aH (cO rfl rfl (dP (dN rfl rfl (aH (aV ⟨_, fW rfl, ?_⟩)))))))
 exact ⟨false, x, rfl, hI, .inr ⟨rfl, nameP_no (.inr (.inl h1))⟩⟩
 refine aB (dM rfl rfl (lp (po_lenS Tryz.underlying9 rfl) rfl (lp (po_gtrF rfl rfl (by omega)) rfl (dM rfl rfl (lg rfl rfl rfl (aC rfl) rfl (lg rfl rfl rfl (po_eqlST (b := []) rfl rfl (List.eq_nil_of_length_eq_zero h1)) rfl (lp (bW rfl rfl rfl) rfl (dM rfl rfl (aU rfl rfl rfl rfl (aU rfl rfl rfl rfl (aU rfl rfl rfl rfl (aU rfl rfl rfl rfl (aU rfl rfl rfl rfl ?_)))))))))))))
 refine aU rfl rfl rfl rfl (lp (bO rfl rfl rfl) rfl (aH (cO rfl rfl (dP (dN rfl rfl (aH (aV ⟨_, fW rfl, ?_⟩)))))))
 exact ⟨false, x, rfl, hI, .inr ⟨rfl, nameP_no (.inl h1)⟩⟩
 refine aB (dM rfl rfl (lp (po_lenS Tryz.underlying9 rfl) rfl (lp (po_gtrF rfl rfl (by omega)) rfl (dM rfl rfl (lg rfl rfl rfl (aC rfl) rfl (lg rfl rfl rfl (po_eqlSF (b := []) rfl rfl (by rintro rfl; simp at h2)) rfl (lp (bW rfl rfl rfl) rfl (dM rfl rfl (lg rfl rfl rfl (aC rfl) rfl (lg rfl rfl rfl (aC rfl) rfl (lg rfl rfl rfl (po_lenS Tryz.underlying9 rfl) rfl (lg rfl rfl rfl (po_sub rfl rfl (fV (c := s.length - 1) (by omega) (by omega))) rfl (lg rfl rfl rfl (po_indexS (s.length - 1) Tryz.underlying9 rfl rfl rfl (by omega)) rfl ?_)))))))))))))
 refine lg rfl rfl rfl (po_neq rfl rfl) rfl (lp (bW rfl rfl rfl) rfl (aH (bH rfl (fun hc2 => ?_) (fun hc2 => ?_))))
 refine dP (dN rfl rfl (aH (aV ⟨_, fW rfl, ?_⟩)))
 exact ⟨false, x, rfl, hI, .inr ⟨rfl, nameP_no (.inr (.inr (by omega)))⟩⟩
 have hl : eB s (s.length - 1) = 46 := by omega
 refine aW (aF (dP (dM rfl rfl (lp (po_eqlS (b := [46]) rfl rfl) rfl (aH (bH rfl (fun hc3 => ?_) (fun hc3 => ?_)))))))
 refine aF ?_
 obtain ⟨hok, vb, vn, va, X, hX, hsl⟩ := hI.sl
 refine aB (dM rfl rfl (dM rfl rfl (lp (aN rfl) rfl (lp (aR fo_74_0 rfl) rfl (lp (aO rfl (aQ k_23 (hsl.st.get (k := 0) rfl) rfl)) rfl (l_appB [0] el_23 hsl (fun _ => rfl) rfl rfl rfl (by decide) (by decide) (by omega) (by omega) rfl rfl (fun b31 v32 w hs => ?_)))))))
 skip
 refine lp (aN rfl) rfl (lp (aR fo_74_0 rfl) rfl (aJ (o_storeS hs k_23 rfl rfl rfl hs.oneCell rfl (fun w hs => aH (dP (dN rfl rfl (aH (aV ⟨_, fW rfl, ?_⟩))))))))
 exact ⟨true, _, rfl, hX.close (hok.put _) hs, .inl ⟨rfl, nameP_dot hc3⟩⟩
 have hgo := nameP_go (short := short) (w := x) h2 h1 hl hc3
 have hlast := last46 h2 hl
 refine aW (aF (bQ (dC (fun g : List UInt8 × Ink => eH (eH (eH emp 2 (.bool short)) 1 (fR g.1)) 0 (.pointer (some ⟨wb, 0, none⟩))) (fun g w => fZ ⟨w00, V0, V⟩ w L wb g.2 ∧ goN short g.1 g.2 = nameP short s x ∧ (g.1 = [] ∨ g.1.getLast? = some 46) ∧ g.2.out.length + g.1.length = x.out.length + s.length) (fun g => g.1.length) (s, x) (aL rfl (aL rfl (aL rfl (bG _)))) ⟨hI, hgo.symm, .inr hlast, rfl⟩ ?_)))
 clear hI
 rintro ⟨r, y⟩ w ⟨hI, hgo', hla, hsum⟩
 simp only at hI hgo' hla hsum ⊢
 refine aF (dP (dM rfl rfl (lp (po_neqS (b := []) rfl rfl) rfl (aH (bH rfl (fun hc4 => ?_) (fun hc4 => ?_))))))
 replace hla := hla.resolve_left hc4
 obtain ⟨ln, lb, lno, lt⟩ := lab_dot hc4 hla
 obtain ⟨hok, vb, vn, va, X, hX, hsl⟩ := hI.sl
 have hfew := hok.few
 obtain ⟨an, cn, rfl⟩ := hX.names
 obtain ⟨ab, cb, rfl⟩ := hsl.size
 have hMX : ∀ {o : Nat × Obj}, ∀ z ∈ X, z ∈ o :: (L ++ X) := fun z hz => List.mem_cons_of_mem _ (List.mem_append_right _ hz)
 refine aW (bQ (aF (dP (dM rfl rfl (lp (aN rfl) rfl (lp (aR fo_74_1 rfl) rfl (lp (aO rfl (aQ k_28 (hsl.st.get (k := 0) rfl) rfl)) rfl (lp (bC Tryz.underlying28 rfl) rfl (dM rfl rfl (aH (bQ (dC (fun k : Nat => eH (eH (eH (eH (eH emp 42 (.int .i64 k)) 41 (.int .i64 y.tbl.length)) 2 (.bool short)) 1 (fR r)) 0 (.pointer (some ⟨wb, 0, none⟩))) (fun k w2 => w = w2 ∧ k ≤ y.tbl.length ∧ (short = true → ∀ j (h : j < y.tbl.length), j < k → y.tbl[j].1 ≠ r)) (fun k => y.tbl.length - k) 0 (aL rfl (aL rfl (aL rfl (aL rfl (aL rfl (bG _)))))) ⟨rfl, Nat.zero_le _, fun _ j _ h => absurd h (by omega)⟩ ?_))))))))))))
 rintro k w2 ⟨hw2, hk, hne⟩
 subst hw2
 refine dP (lp (cY rfl rfl) rfl (aH (aF (bH rfl (fun hc5 => ?_) (fun hc5 => ?_)))))
 have hkl : k < y.tbl.length := by omega
 have hpl := hok.pl _ (List.getElem_mem hkl)
 obtain ⟨p, hp⟩ : ∃ p, y.tbl[k].2 = p := ⟨_, rfl⟩
 rw [hp] at hpl
 obtain ⟨gn, cn2, g2, c2, e1, rfl, hrw⟩ := hX.rows (by omega)
 cases e1
 obtain ⟨hrn, hra⟩ := hrw ⟨w00, V0, V⟩ X (fun _ h => h)
 have hnm : ∀ {M : List (Nat × Obj)} {w2 : World}, (∀ z ∈ X, z ∈ M) → St ⟨w00, V0, V⟩ w2 M → w2.cell? ⟨gn, k, none⟩ = some (fR y.tbl[k].1) := fun hM h => by
  have q := hrn.ld h hM k (u := fR y.tbl[k].1) (by simp [nmR, hkl])
  rwa [Nat.zero_add] at q
 have hat : ∀ {M : List (Nat × Obj)} {w2 : World}, (∀ z ∈ X, z ∈ M) → St ⟨w00, V0, V⟩ w2 M → w2.cell? ⟨g2, k, none⟩ = some (.int .i64 p) := fun hM h => by
  have q := hra.ld h hM k (u := .int .i64 p) (by simp [atR, hkl, hp])
  rwa [Nat.zero_add] at q
 refine aW (aF (bQ (dP (dM rfl rfl (dN rfl rfl (aH (aF ?_)))))))
 rcases (by cases short <;> simp : short = false ∨ short = true) with hg | hg
 refine aB (dM rfl rfl (dM rfl rfl (aU rfl rfl hg rfl (aU rfl rfl hg rfl (aU rfl rfl hg rfl (aU rfl rfl hg rfl (aU rfl rfl hg rfl (aU rfl rfl hg rfl (aU rfl rfl hg rfl (aU rfl rfl hg rfl (aU rfl rfl hg rfl (lp (bW rfl hg rfl) rfl (aH ?_)))))))))))))
 refine aY rfl rfl (aW (aB (lp (bN rfl rfl (fV (c := k + 1) (by omega) (by omega))) rfl (dM rfl rfl (aH ?_)))))
 exact ⟨k + 1, aL rfl (aL rfl (aL rfl (aL rfl (aL rfl (bG _))))), ⟨rfl, hkl, fun h => by rw [hg] at h; cases h⟩, by omega⟩
 refine aB (dM rfl rfl (dM rfl rfl (lg rfl rfl hg (aC rfl) rfl (lg rfl rfl hg (aN rfl) rfl (lg rfl rfl hg (aR fo_74_1 rfl) rfl (lg rfl rfl hg (aO rfl (aQ k_28 (hsl.st.get (k := 0) rfl) rfl)) rfl (lg rfl rfl hg (aC rfl) rfl (lg rfl rfl hg (eZ k k es_28 rfl rfl rfl hkl (by omega)) rfl (lg rfl rfl hg (aO rfl (bR k_9 (hnm hMX hsl.st))) rfl (lg rfl rfl hg (aC rfl) rfl (lg rfl rfl hg (po_eqlS rfl rfl) rfl (lp (bO rfl hg rfl) rfl (aH ?_)))))))))))))
 refine bH rfl (fun hc7 => ?_) (fun hc7 => ?_)
 refine aF ?_
 obtain ⟨Xb, hXb, hs⟩ := hsl.open
 refine e_draw (fun w2 => w2.heap[wb]? = some (.cells [Value.slice ab y.out.length cb, .slice (some ⟨gn, 0, none⟩) y.tbl.length cn, .slice (some ⟨g2, 0, none⟩) y.tbl.length c2].toArray 74 (0, 0)) ∧ w2.cell? ⟨g2, k, none⟩ = some (.int .i64 p)) [4, 8, 11, 18, 21] mixed (fun w hw => ?_)
 replace hs := hw.st hs
 refine dI 0 rfl (fun w => aC rfl) rfl rfl (dI 1 rfl (fun w => aC rfl) rfl rfl (dI 2 rfl (fun w => aN rfl) rfl rfl (dI 3 rfl (fun w => aR fo_74_0 rfl) rfl rfl (dJ 4 rfl (⟨hs.g 0 rfl, hat (fun z hz => List.mem_append_left _ (hMX z hz)) hs⟩) rfl (fun w hf => (aO rfl (aQ k_23 hf.1 rfl))) rfl (dI 5 rfl (fun w => aC rfl) rfl rfl (dI 6 rfl (fun w => aN rfl) rfl rfl (dI 7 rfl (fun w => aR fo_74_2 rfl) rfl rfl (dJ 8 rfl (⟨hs.g 0 rfl, hat (fun z hz => List.mem_append_left _ (hMX z hz)) hs⟩) rfl (fun w hf => (aO rfl (aQ k_62 hf.1 rfl))) rfl (dI 9 rfl (fun w => aC rfl) rfl rfl (dI 10 rfl (fun w => (eZ k k es_62 rfl rfl rfl hkl (by omega))) rfl rfl (dJ 11 rfl (⟨hs.g 0 rfl, hat (fun z hz => List.mem_append_left _ (hMX z hz)) hs⟩) rfl (fun w hf => (aO rfl (bR cH hf.2))) rfl (dI 12 rfl (fun w => (po_shr (c := (p / 256 : Nat)) rfl rfl (by decide) (i64sh8 (n := p)))) rfl rfl (dI 13 rfl (fun w => (bN rfl rfl (fV (c := 192 + p / 256) (by omega) (by omega)))) rfl rfl ?_)))))))))))))
 refine dI 14 rfl (fun w => bY Tryz.underlying3 Tryz.underlying5 rfl u8lo) rfl rfl (dI 15 rfl (fun w => aC rfl) rfl rfl (dI 16 rfl (fun w => aN rfl) rfl rfl (dI 17 rfl (fun w => aR fo_74_2 rfl) rfl rfl (dJ 18 rfl (⟨hs.g 0 rfl, hat (fun z hz => List.mem_append_left _ (hMX z hz)) hs⟩) rfl (fun w hf => (aO rfl (aQ k_62 hf.1 rfl))) rfl (dI 19 rfl (fun w => aC rfl) rfl rfl (dI 20 rfl (fun w => (eZ k k es_62 rfl rfl rfl hkl (by omega))) rfl rfl (dJ 21 rfl (⟨hs.g 0 rfl, hat (fun z hz => List.mem_append_left _ (hMX z hz)) hs⟩) rfl (fun w hf => (aO rfl (bR cH hf.2))) rfl (dI 22 rfl (fun w => bY Tryz.underlying3 Tryz.underlying5 rfl u8lo) rfl rfl (dL 23 rfl (o_bslice (vls := [[eA (UInt8.ofNat (192 + p / 256))], [eA (UInt8.ofNat p)]]) el_23 hs rfl rfl rfl rfl (by simp) (by decide) (by decide) rfl (fun b80 w hb80 he80 hs => ⟨fun _ => ⟨hs.g 1 rfl, hat (fun z hz => List.mem_cons_of_mem _ (List.mem_append_left _ (hMX z hz))) hs⟩, dL 24 rfl (fA (k := 2) (news := [eA (UInt8.ofNat (192 + p / 256)), eA (UInt8.ofNat p)]) el_23 (.inr ⟨_, Tryz.underlying23⟩) (SlX.close (L := (b80, _) :: (wb, _) :: (L ++ X)) hXb hs) rfl rfl (src_own (k := 0) hs rfl rfl) (dH [_, _]) (by omega) (by omega) rfl (fun v81 w hs => ⟨fun _ => ⟨hs.st.get (k := 1) rfl, hat (fun z hz => List.mem_cons_of_mem _ (hMX z hz)) hs.st⟩, ?_⟩))⟩)))))))))))
 replace hs := hs.drop hb80
 refine dI 25 rfl (fun w => aN rfl) rfl rfl (dI 26 rfl (fun w => aR fo_74_0 rfl) rfl rfl (dL 27 rfl (o_storeS hs k_23 rfl rfl rfl hs.oneCell rfl (fun w hs => ⟨fun h => absurd h (by decide +kernel), bS (by decide +kernel) (dP (dN rfl rfl (aH (aV ⟨_, fW rfl, ?_⟩))))⟩))))
 exact ⟨true, y.put (be2 (49152 + p)), rfl, hX.close (hok.put _) (by rw [be2_ptr, List.map_append]; exact hs), .inl ⟨rfl, by rw [← hgo', hg, ← hp]; exact goN_hit hc4 (tblAt_first hkl (hne hg) hc7)⟩⟩
 refine aW (aB (lp (bN rfl rfl (fV (c := k + 1) (by omega) (by omega))) rfl (dM rfl rfl (aH ?_))))
 exact ⟨k + 1, aL rfl (aL rfl (aL rfl (aL rfl (aL rfl (bG _))))), ⟨rfl, hkl, fun h j hj hjk => by
  by_cases e : j = k
  subst e; exact hc7
  exact hne h j hj (by omega)⟩, by omega⟩
 have hkn : k = y.tbl.length := by omega
 have hmiss : short = false ∨ tblAt y.tbl r = none := by
  cases short with
  | false => exact .inl rfl
  | true => exact .inr (tblAt_none fun j hj => hne rfl j hj (by omega))
 have hstep := goN_step (short := short) (w := y) hc4 hmiss
 refine eT (dP (dN rfl rfl (aH (aF (bQ (dC (fun i : Nat => eH (eH (eH (eH emp 8 (.int .i64 i)) 2 (.bool short)) 1 (fR r)) 0 (.pointer (some ⟨wb, 0, none⟩))) (fun i w2 => w = w2 ∧ i ≤ (eO r).length) (fun i => (eO r).length - i) 0 (aL rfl (aL rfl (aL rfl (aL rfl (bG _))))) ⟨rfl, Nat.zero_le _⟩ ?_))))))
 rintro i w2 ⟨hw2, hi⟩
 subst hw2
 refine aF (dP (dM rfl rfl (dM rfl rfl (lp (po_indexS i Tryz.underlying9 rfl rfl rfl (by omega)) rfl (lp (po_neq rfl rfl) rfl (aH (bH rfl (fun hc8 => ?_) (fun hc8 => ?_))))))))
 have hil : i < (eO r).length := Nat.lt_of_le_of_ne hi (fun e => absurd (show ((eB r i : Nat) : Int) = 46 by rw [e, lb]; rfl) hc8)
 refine aW (bQ (aB (dM rfl rfl (lp (bN rfl rfl (fV (c := i + 1) (by omega) (by omega))) rfl (dN rfl rfl (aH ?_))))))
 exact ⟨i + 1, aL rfl (aL rfl (aL rfl (aL rfl (bG _)))), ⟨rfl, hil⟩, by omega⟩
 have hin : i = (eO r).length := Nat.le_antisymm hi (Nat.not_lt.1 fun h => lno i h (by omega))
 subst hin
 refine eT (aF (aF ?_))
 rcases Nat.eq_zero_or_pos (eO r).length with hn | hn
 refine aB (dM rfl rfl (lp (po_eqlT rfl rfl (by omega)) rfl (dM rfl rfl (aU rfl rfl rfl rfl (aU rfl rfl rfl rfl (lp (bO rfl rfl rfl) rfl (aH (cO rfl rfl (dP (dN rfl rfl (aH (aV ⟨_, fW rfl, ?_⟩))))))))))))
 exact ⟨false, y, rfl, hX.close hok hsl, .inr ⟨rfl, by rw [← hgo', hstep]; unfold midN; rw [if_pos (.inl hn)]⟩⟩
 refine aB (dM rfl rfl (lp (po_eqlF rfl rfl (by omega)) rfl (dM rfl rfl (lg rfl rfl rfl (aC rfl) rfl (lg rfl rfl rfl (cQ rfl rfl) rfl (lp (bW rfl rfl rfl) rfl (aH (bH rfl (fun hc10 => ?_) (fun hc10 => ?_)))))))))
 refine dP (dN rfl rfl (aH (aV ⟨_, fW rfl, ?_⟩)))
 exact ⟨false, y, rfl, hX.close hok hsl, .inr ⟨rfl, by rw [← hgo', hstep]; unfold midN; rw [if_pos (.inr (by omega))]⟩⟩
 refine aW (dG (fun ρ w2 => Sub (eH (eH (eH (eH emp 8 (.int .i64 (eO r).length)) 2 (.bool short)) 1 (fR r)) 0 (.pointer (some ⟨wb, 0, none⟩))) ρ ∧ ∃ vb vn va X, InkX w00.heap.size X vn va (putTbl short r y).tbl ∧ Sl 5 1 ⟨w00, V0, V⟩ w2 ((wb, .cells [vb, vn, va].toArray 74 (0, 0)) :: (L ++ X)) vb y.out.length (y.out.map eA)) ?_ ?_)
 refine dG (fun ρ w2 => w = w2 ∧ Sub (eH (eH (eH (eH (eH emp 105 (.bool (decide (short = true ∧ y.out.length < 16384)))) 8 (.int .i64 (eO r).length)) 2 (.bool short)) 1 (fR r)) 0 (.pointer (some ⟨wb, 0, none⟩))) ρ) ?_ ?_
 rcases (by cases short <;> simp : short = false ∨ short = true) with hg | hg
 refine aB (dM rfl rfl (dM rfl rfl (aU rfl rfl hg rfl (aU rfl rfl hg rfl (aU rfl rfl hg rfl (aU rfl rfl hg rfl (aU rfl rfl hg rfl (aU rfl rfl hg rfl (lp (bW rfl hg rfl) rfl (aH ?_))))))))))
 exact ⟨rfl, aL rfl (aL rfl (aL rfl (aL rfl (aL (by rw [show decide (short = true ∧ y.out.length < 16384) = false by simp [hg]]; rfl) (bG _)))))⟩
 refine aB (dM rfl rfl (dM rfl rfl (lg rfl rfl hg (aC rfl) rfl (lg rfl rfl hg (aN rfl) rfl (lg rfl rfl hg (aR fo_74_0 rfl) rfl (lg rfl rfl hg (aO rfl (aQ k_23 (hsl.st.get (k := 0) rfl) rfl)) rfl (lg rfl rfl hg (bC Tryz.underlying23 rfl) rfl (lg rfl rfl hg (cY rfl rfl) rfl (lp (bO rfl hg rfl) rfl (aH ?_))))))))))
 exact ⟨rfl, aL rfl (aL rfl (aL rfl (aL rfl (aL (by rw [show decide (short = true ∧ y.out.length < 16384) = decide ((y.out.length : Int) < 16384) from decide_eq_decide.2 ⟨fun h => by omega, fun h => ⟨hg, by omega⟩⟩]; rfl) (bG _)))))⟩
 rintro ρ w2 ⟨hw2, hsub⟩
 subst hw2
 refine EW.weaken hsub (bH rfl (fun hc11 => ?_) (fun hc11 => ?_))
 refine aF ?_
 obtain ⟨Xn, Xa, rfl, hXn, hXa⟩ := hX
 obtain ⟨Xb, hXb, hsn⟩ := hsl.rot hXn
 refine aB (dM rfl rfl (dM rfl rfl (lp (aN rfl) rfl (lp (aR fo_74_1 rfl) rfl (lp (aO rfl (aQ k_28 (hsn.st.get (k := 0) rfl) rfl)) rfl (dM rfl rfl (l_app1 (cl := [fR r]) el_28 hsn (fun _ => rfl) rfl rfl rfl (bX rfl eQ) (by decide) (by omega) (by omega) rfl rfl (fun b112 v113 w hs => ?_))))))))
 skip
 refine lp (aN rfl) rfl (lp (aR fo_74_1 rfl) rfl (aJ (o_storeS hs k_28 rfl rfl rfl hs.oneCell rfl (fun w hs => aH ?_))))
 obtain ⟨Xn2, hXn2, hsa⟩ := hs.rot hXa
 clear hs
 obtain ⟨Xa2, hXa2, hs⟩ := hsa.open
 refine e_draw (fun w2 => w2.heap[wb]? = some (.cells [Value.slice ab y.out.length cb, v113, va].toArray 74 (0, 0))) [4, 8] mixed (fun w hw => ?_)
 replace hs := hw.st hs
 refine dI 0 rfl (fun w => aC rfl) rfl rfl (dI 1 rfl (fun w => aC rfl) rfl rfl (dI 2 rfl (fun w => aN rfl) rfl rfl (dI 3 rfl (fun w => aR fo_74_2 rfl) rfl rfl (dJ 4 rfl (hs.g 0 rfl) rfl (fun w hf => (aO rfl (aQ k_62 hf rfl))) rfl (dI 5 rfl (fun w => aC rfl) rfl rfl (dI 6 rfl (fun w => aN rfl) rfl rfl (dI 7 rfl (fun w => aR fo_74_0 rfl) rfl rfl (dJ 8 rfl (hs.g 0 rfl) rfl (fun w hf => (aO rfl (aQ k_23 hf rfl))) rfl (dI 9 rfl (fun w => bC Tryz.underlying23 rfl) rfl rfl (dL 10 rfl (o_bslice (vls := [[.int .i64 y.out.length]]) el_62 hs rfl rfl rfl rfl (by simp) (by decide) (by decide) rfl (fun b126 w hb126 he126 hs => ⟨fun _ => hs.g 1 rfl, dL 11 rfl (fA (k := 1) (news := [.int .i64 y.out.length]) el_62 (.inr ⟨_, Tryz.underlying62⟩) (SlX.close (L := (b126, _) :: (wb, _) :: (L ++ (Xb ++ Xn2))) hXa2 hs) rfl rfl (src_own (k := 0) hs rfl rfl) (bX rfl eQ) (by omega) (by omega) rfl (fun v127 w hs => ⟨fun _ => hs.st.get (k := 1) rfl, ?_⟩))⟩))))))))))))
 replace hs := hs.drop hb126
 refine dI 12 rfl (fun w => aN rfl) rfl rfl (dI 13 rfl (fun w => aR fo_74_2 rfl) rfl rfl (dL 14 rfl (o_storeS hs k_62 rfl rfl rfl hs.oneCell rfl (fun w hs => ⟨fun h => absurd h (by decide +kernel), bS (by decide +kernel) ?_⟩))))
 obtain ⟨Xa3, hXa3, hsb⟩ := hs.rot hXb
 have e : (putTbl short r y).tbl = y.tbl ++ [(r, y.out.length)] := by unfold putTbl; exact if_pos hc11
 exact ⟨aL rfl (aL rfl (aL rfl (aL rfl (bG _)))), _, _, _, _, ⟨Xn2, Xa3, rfl, by rw [e]; simpa [nmR] using hXn2, by rw [e]; simpa [atR] using hXa3⟩, hsb⟩
 refine aW ?_
 have e : (putTbl short r y).tbl = y.tbl := by unfold putTbl; exact if_neg hc11
 exact ⟨aL rfl (aL rfl (aL rfl (aL rfl (bG _)))), _, _, _, X, by rw [e]; exact hX, hsl⟩
 rintro ρ w2 ⟨hsub, vb2, vn2, va2, X2, hX2, hsl2⟩
 refine EW.weaken hsub (aF ?_)
 obtain ⟨Xb2, hXb2, hs⟩ := hsl2.open
 have hlt : (r.take (eO r).length).length = (eO r).length := by rw [← lt]
 refine e_draw (fun w2 => w2.heap[wb]? = some (.cells [vb2, vn2, va2].toArray 74 (0, 0))) [4] mixed (fun w hw => ?_)
 replace hs := hw.st hs
 refine dI 0 rfl (fun w => aC rfl) rfl rfl (dI 1 rfl (fun w => aC rfl) rfl rfl (dI 2 rfl (fun w => aN rfl) rfl rfl (dI 3 rfl (fun w => aR fo_74_0 rfl) rfl rfl (dJ 4 rfl (hs.g 0 rfl) rfl (fun w hf => (aO rfl (aQ k_23 hf rfl))) rfl (dI 5 rfl (fun w => aC rfl) rfl rfl (dI 6 rfl (fun w => bY Tryz.underlying3 Tryz.underlying5 rfl u8lo) rfl rfl (dI 9 rfl (fun w => aC rfl) rfl rfl (dI 10 rfl (fun w => aC rfl) rfl rfl (dI 11 rfl (fun w => (po_headS (eO r).length Tryz.underlying9 rfl rfl rfl (by omega))) rfl rfl (dL 7 rfl (o_bslice (vls := [[eA (UInt8.ofNat (eO r).length)]]) el_23 hs rfl rfl rfl rfl (by simp) (by decide) (by decide) rfl (fun b137 w hb137 he137 hs => ⟨fun _ => hs.g 1 rfl, dL 8 rfl (fA (k := 1) (news := [eA (UInt8.ofNat (eO r).length)]) el_23 (.inr ⟨_, Tryz.underlying23⟩) (SlX.close (L := (b137, _) :: (wb, _) :: (L ++ X2)) hXb2 hs) rfl rfl (src_own (k := 0) hs rfl rfl) (dH [_]) (by omega) (by omega) rfl (fun v138 w hs => ⟨fun _ => hs.st.get (k := 1) rfl, ?_⟩))⟩))))))))))))
 replace hs := hs.drop hb137
 refine dL 12 rfl (fA (k := (r.take (eO r).length).length) (news := (r.take (eO r).length).map eA) el_23 (.inl Tryz.underlying9) hs rfl rfl src_strV (dH _) (by omega) (by omega) rfl (fun v142 w hs => ⟨fun _ => hs.st.get (k := 0) rfl, dI 13 rfl (fun w => aN rfl) rfl rfl (dI 14 rfl (fun w => aR fo_74_0 rfl) rfl rfl (dL 15 rfl (o_storeS hs k_23 rfl rfl rfl hs.oneCell rfl (fun w hs => ⟨fun h => absurd h (by decide +kernel), bS (by decide +kernel) (aB (dM rfl rfl (dM rfl rfl (lp (bN rfl rfl (fV (c := (eO r).length + 1) (by omega) (by omega))) rfl (lp (po_strRest ((eO r).length + 1) Tryz.underlying9 rfl rfl rfl (by omega)) rfl (dN rfl rfl (aH ?_)))))))⟩))))⟩))
 have htl : (putTbl short r y).tbl.length ≤ y.tbl.length + 1 := by unfold putTbl; split <;> simp
 have hok2 : InkOk ⟨y.out ++ UInt8.ofNat (eO r).length :: eO r, (putTbl short r y).tbl⟩ := ⟨hok.pl.put, by simp only [List.length_append, List.length_cons]; omega⟩
 rw [← lt] at hs
 exact ⟨(r.drop ((eO r).length + 1), ⟨y.out ++ UInt8.ofNat (eO r).length :: eO r, (putTbl short r y).tbl⟩), aL rfl (aL rfl (aL rfl (bG _))), ⟨hX2.close hok2 (by simpa using hs), by rw [← hgo', hstep]; unfold midN; rw [if_neg (by omega)]; rfl, drop46 hla, by simp only [List.length_append, List.length_cons, List.length_drop]; omega⟩, by simp only [List.length_drop]; omega⟩
 have hr : r = [] := Classical.not_not.1 hc4
 refine eT (aF ?_)
 subst hr
 obtain ⟨hok, vb, vn, va, X, hX, hsl⟩ := hI.sl
 refine aB (dM rfl rfl (dM rfl rfl (lp (aN rfl) rfl (lp (aR fo_74_0 rfl) rfl (lp (aO rfl (aQ k_23 (hsl.st.get (k := 0) rfl) rfl)) rfl (l_appB [0] el_23 hsl (fun _ => rfl) rfl rfl rfl (by decide) (by decide) (by omega) (by omega) rfl rfl (fun b31 v32 w hs => ?_)))))))
 skip
 refine lp (aN rfl) rfl (lp (aR fo_74_0 rfl) rfl (aJ (o_storeS hs k_23 rfl rfl rfl hs.oneCell rfl (fun w hs => aH (dP (dN rfl rfl (aH (aV ⟨_, fW rfl, ?_⟩))))))))
 exact ⟨true, _, rfl, hX.close (hok.put _) hs, .inl ⟨rfl, by rw [← hgo', goN_nil]; rfl⟩⟩
end
end Go.Proofs.YtgpfjlfkaoffeaaGreatDoor
namespace Go.Proofs.YtgpfjlfkaoffeaaGreatDoor
open Go
def recK (r : fY) (k : Int) (vd vt vp : Value) : List Value :=
 [fR r.name, .int .u16 r.type, .int .u16 r.cls, .int .u32 r.ttl, .int .u16 r.length, .int .i64 k, vd, fR r.host, fR r.box, .int .u32 r.n1, .int .u32 r.n2, .int .u32 r.n3, .int .u32 r.n4, .int .u32 r.n5, vt, vp]
def KindI (r : fY) (k : Int) : Prop := (k = r.kind ∧ 1 ≤ r.kind ∧ r.kind ≤ 13) ∨ (r.kind = 0 ∧ (k < 1 ∨ 13 < k))
theorem KindI.at {r : fY} {k : Int} (h : KindI r k) {n : Nat} (e : k = n) (h1 : 1 ≤ n) (h2 : n ≤ 13) : r.kind = n := by
 rcases h with ⟨h, _⟩ | ⟨_, h⟩ <;> omega
def RRecK (V : Vw) (r : fY) (c : List Value) : Prop := ∃ k vd vt vp, c = recK r k vd vt vp ∧ KindI r k ∧ RB V vd r.data ∧ fF V vt r.texts ∧ eV V vp r.pairs
def RRecsK (V : Vw) (v : Value) (l : List fY) : Prop := ∃ xs, SlV V 16 v l.length xs ∧ Rows 16 (RRecK V) l xs
theorem RRec.toK {V : Vw} {r : fY} {c : List Value} (h : RRec V r c) (h1 : 1 ≤ r.kind) (h2 : r.kind ≤ 13) : RRecK V r c := by
 obtain ⟨vd, vt, vp, rfl, a, b, d⟩ := h
 exact ⟨r.kind, vd, vt, vp, rfl, .inl ⟨rfl, h1, h2⟩, a, b, d⟩
theorem RRecK.flat {V : Vw} {r : fY} {c : List Value} (h : RRecK V r c) : Flat c ∧ c.length = 16 := by
 obtain ⟨k, vd, vt, vp, rfl, _, h2, h3, h4⟩ := h
 exact ⟨aG (by unfold recK; simp only [List.all_cons, List.all_nil, h2.oneCell, h3.oneCell, h4.oneCell]; rfl), rfl⟩
theorem RRecK.mono {V V' : Vw} (hV : V.le V') {r : fY} {c : List Value} (h : RRecK V r c) : RRecK V' r c := by
 obtain ⟨k, vd, vt, vp, h0, hk, h2, h3, h4⟩ := h
 exact ⟨k, vd, vt, vp, h0, hk, h2.mono hV, h3.mono hV, h4.mono hV⟩
theorem RRecsK.mono {V V' : Vw} (hV : V.le V') {v : Value} {l : List fY} (h : RRecsK V v l) : RRecsK V' v l := by
 obtain ⟨xs, h1, h2⟩ := h
 exact ⟨xs, h1.mono hV, h2.mono fun _ _ h => h.mono hV⟩
theorem RRecsK.form {V : Vw} {v : Value} {l : List fY} (h : RRecsK V v l) : ∃ a c, v = .slice a l.length c := by
 obtain ⟨xs, hS, _⟩ := h
 obtain ⟨a, c, h1, _⟩ := hS.form
 exact ⟨a, c, h1⟩
def tk (k d : Nat) : Nat := match k with
 | 1 => 1 | 2 => 2 | 3 => 5 | 4 => 6 | 5 => 12 | 6 => 15 | 7 => 16 | 8 => 28 | 9 => 33 | 10 => 41 | 11 => 64 | 12 => 65
 | _ => d
theorem type_tk (r : fY) : eG r = tk r.kind r.type := by unfold eG tk; split <;> simp_all
theorem tk_any : ∀ k, k < 13 → 1 ≤ k → ∀ d, tk k d = tk k 0 := by
 intro k hk h1 d
 have : k = 1 ∨ k = 2 ∨ k = 3 ∨ k = 4 ∨ k = 5 ∨ k = 6 ∨ k = 7 ∨ k = 8 ∨ k = 9 ∨ k = 10 ∨ k = 11 ∨ k = 12 := by omega
 rcases this with rfl | rfl | rfl | rfl | rfl | rfl | rfl | rfl | rfl | rfl | rfl | rfl <;> rfl
theorem tk_kind : ∀ t, t < 66 → 1 ≤ t → eE t = 13 ∨ (1 ≤ eE t ∧ eE t < 13 ∧ tk (eE t) 0 = t) := by decide
theorem kind_tk : ∀ k, k < 13 → 1 ≤ k → 1 ≤ tk k 0 ∧ tk k 0 < 66 ∧ eE (tk k 0) = k := by decide
theorem type_hit {r : fY} {k : Int} {t : Nat} (h : KindI r k) (ht : t < 66) (h1 : 1 ≤ t) (he : (eE t : Int) = k) (hn : k ≠ 13) : eG r = t := by
 rcases tk_kind t ht h1 with h3 | ⟨h3, h4, h5⟩
 omega
 have hk : r.kind = eE t := h.at he.symm h3 (by omega)
 rw [type_tk, hk, tk_any _ h4 h3, h5]
theorem type_miss {r : fY} {k : Int} (h : KindI r k) (hn : ∀ u, 1 ≤ u → u < 66 → ¬ ((eE u : Int) = k ∧ k ≠ 13)) : eG r = r.type := by
 rw [type_tk]
 rcases h with ⟨h, h1, h2⟩ | ⟨h, _⟩
 rcases Nat.lt_or_ge r.kind 13 with h3 | h3
 obtain ⟨a, b, c⟩ := kind_tk r.kind h3 h1
 exact absurd ⟨by rw [c]; exact h.symm, by omega⟩ (hn _ a b)
 rw [show r.kind = 13 by omega]; rfl
 rw [h]; rfl
section
variable {V : Vw} {w0 : World} {r : fY} {k : Int} {vd vt vp dv : Value} {d : List UInt8}
set_option maxHeartbeats 1000000 in
theorem n_data (hV : V.In w0) (hD : RB V dv d) (n : Nat) (hn : n ≤ 16) :
  eC Tryz.prog 119 #[dv, .int .i64 n] w0 fun v w' => ∃ b, v = .slice (some ⟨b, 0, none⟩) n n ∧ w0.heap.size ≤ b ∧ St ⟨w0, V, V⟩ w' [(b, .cells ((padTo d n).map eA).toArray 5 (0, 0))] := by
 have hs := St.start hV
 refine aT [_, _] Tryz.func119 Tryz.ntmps119 Tryz.results119 rfl rfl (dP (dN rfl rfl (aH (dP (dM rfl rfl (aJ (o_make (c := n) (l := n) el_23 hs rfl rfl rfl rfl (Nat.le_refl _) (by omega) (by omega) rfl (fun b7 w hb7 he7 hs => ?_))))))))
 rw [made_one] at hs
 refine dN rfl rfl (aH (dP (dM rfl rfl (dM rfl rfl (aJ (o_copy (kk := 0) (k := Nat.min d.length n) (sl := d.length) (news := (d.take (Nat.min d.length n)).map eA) es_23 hs rfl rfl hD.len rfl (RB.fst hD hs.isIn (Nat.min_le_left _ _)) (dH _) rfl (by have := Nat.min_le_right d.length n; simp; omega) rfl rfl (fun w hs => ?_)))))))
 rw [padTo_cells] at hs
 refine aH (dP (dM rfl rfl (dN rfl rfl (aH (aV ⟨_, fW rfl, ?_⟩)))))
 exact ⟨b7, rfl, hb7, hs⟩
set_option maxHeartbeats 1000000 in
theorem n_TypeOf (hV : V.In w0) (hk : KindI r k) :
  eC Tryz.prog 50 #[.agg (recK r k vd vt vp).toArray] w0 fun v w' => v = .int .u16 (eG r : Nat) ∧ St ⟨w0, V, V⟩ w' [] := by
 have hs := St.start hV
 refine aT [_] Tryz.func50 Tryz.ntmps50 Tryz.results50 rfl rfl (dP (aJ (cR hs rfl rfl rfl (fun b1 w hb1 hbe1 hs => dN rfl rfl (aH (aF (dP (dN rfl rfl (aH (bQ (dC (fun t : Nat => eH (eH emp 3 (.int .u16 t)) 1 (.pointer (some ⟨b1, 0, none⟩))) (fun t w => St ⟨w0, V, V⟩ w [(b1, .cells (recK r k vd vt vp).toArray 30 (0, 0))] ∧ 1 ≤ t ∧ t ≤ 66 ∧ ∀ u, 1 ≤ u → u < t → ¬ ((eE u : Int) = k ∧ k ≠ 13)) (fun t => 66 - t) 1 (aL rfl (aL rfl (bG _))) ⟨hs, Nat.le_refl _, by decide, fun u h1 h2 => absurd h2 (by omega)⟩ ?_)))))))))))
 clear hs
 rintro t w ⟨hs, ht1, ht2, hno⟩
 refine aF (dP (dM rfl rfl (lp (po_leq rfl rfl) rfl (aH (bH rfl (fun hc0 => ?_) (fun hc0 => ?_))))))
 have htl : t < 66 := by omega
 refine aW (aF (bQ (aF ?_)))
 rcases Classical.em ((eE t : Int) = k) with h1 | h1
 refine bV hs [3, 7] mixed (fun w hs => dI 0 rfl (fun w => aC rfl) rfl rfl (dI 2 rfl (fun w => aR fo_30_5 rfl) rfl rfl (dJ 3 rfl hs rfl (fun w hs => (aO rfl (aQ cH (hs.g 0 rfl) rfl))) rfl (dL 1 rfl (cF (cD rfl rfl ok_118 (c_KindOf hs.isIn t rfl)) rfl (fun v9 w HF => ?_))))))
 obtain ⟨rfl, hc⟩ := HF
 replace hs := hs.frame hc
 refine ⟨fun _ => hs, dI 4 rfl (fun w => po_eqlT rfl rfl h1) rfl rfl (dI 5 rfl (fun w => aC rfl) rfl rfl (dK 6 rfl rfl rfl rfl (fun h => absurd h (by decide +kernel)) (fun w _ => (aR fo_30_5 rfl)) rfl (dK 7 rfl rfl rfl rfl (fun _ => hs) (fun w h0 => have hs := h0 (by decide +kernel); (aO rfl (aQ cH (hs.g 0 rfl) rfl))) rfl (dK 8 rfl rfl rfl rfl (fun h => absurd h (by decide +kernel)) (fun w _ => (po_neq rfl rfl)) rfl (dI 9 rfl (fun w => bO rfl rfl rfl) rfl rfl (bS (by decide +kernel) (bH rfl (fun hc1 => ?_) (fun hc1 => ?_))))))))⟩
 refine dP (dM rfl rfl (dN rfl rfl (aH (aV ⟨_, fW rfl, ?_⟩))))
 exact ⟨congrArg (fun q : Nat => Value.int .u16 q) (type_hit hk htl ht1 h1 hc1).symm, hs.drop hb1⟩
 refine aW (aB (dM rfl rfl (lp (bN rfl rfl (u16c (c := t + 1) (by omega) (by omega))) rfl (dN rfl rfl (aH ?_)))))
 exact ⟨t + 1, aL rfl (aL rfl (bG _)), ⟨hs, by omega, by omega, fun u h3 h4 => by
  by_cases e : u = t
  subst e; exact fun h => hc1 h.2
  exact hno u h3 (by omega)⟩, by omega⟩
 refine bV hs [3] mixed (fun w hs => dI 0 rfl (fun w => aC rfl) rfl rfl (dI 2 rfl (fun w => aR fo_30_5 rfl) rfl rfl (dJ 3 rfl hs rfl (fun w hs => (aO rfl (aQ cH (hs.g 0 rfl) rfl))) rfl (dL 1 rfl (cF (cD rfl rfl ok_118 (c_KindOf hs.isIn t rfl)) rfl (fun v9 w HF => ?_))))))
 obtain ⟨rfl, hc⟩ := HF
 replace hs := hs.frame hc
 refine ⟨fun _ => hs, dI 4 rfl (fun w => po_eqlF rfl rfl h1) rfl rfl (dI 5 rfl (fun w => aC rfl) rfl rfl (a_gskip 6 rfl (by decide +kernel) rfl rfl rfl (fun h => absurd h (by decide +kernel)) rfl (a_gskip 7 rfl (by decide +kernel) rfl rfl rfl (fun h => absurd h (by decide +kernel)) rfl (a_gskip 8 rfl (by decide +kernel) rfl rfl rfl (fun h => absurd h (by decide +kernel)) rfl (dI 9 rfl (fun w => bW rfl rfl rfl) rfl rfl (bS (by decide +kernel) (aY rfl rfl (aW (aB (dM rfl rfl (lp (bN rfl rfl (u16c (c := t + 1) (by omega) (by omega))) rfl (dN rfl rfl ?_))))))))))))⟩
 refine aH ?_
 exact ⟨t + 1, aL rfl (aL rfl (bG _)), ⟨hs, by omega, by omega, fun u h3 h4 => by
  by_cases e : u = t
  subst e; exact fun h => h1 h.1
  exact hno u h3 (by omega)⟩, by omega⟩
 have hte : t = 66 := by omega
 refine eT (dP (lp (aR fo_30_1 rfl) rfl (lp (aO rfl (aQ eS (hs.g 0 rfl) rfl)) rfl (dN rfl rfl (aH (aV ⟨_, fW rfl, ?_⟩))))))
 exact ⟨congrArg (fun q : Nat => Value.int .u16 q) (type_miss hk (fun u h3 h4 => hno u h3 (by omega))).symm, hs.drop hb1⟩
end
end Go.Proofs.YtgpfjlfkaoffeaaGreatDoor

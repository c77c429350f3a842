/- Packing: bodies of many pieces. Packing: parameters. Packing: texts. Packing: bodies through their interface values. -/
import Derived.Test.YtgpfjlfkaoffeaaGreatDoorR16
import Derived.Test.YtgpfjlfkaoffeaaGreatDoorR06
set_option linter.all false
namespace Go.Proofs.YtgpfjlfkaoffeaaGreatDoor
open Go
theorem pairsP_succ {ps : List fU} {j : Nat} {p : fU} (h : ps[j]? = some p) : eX (ps.take (j + 1)) = eX (ps.take j) ++ (be2 p.key ++ (be2 p.data.length ++ p.data)) := by
 unfold eX
 rw [List.take_add_one, h]
 simp
theorem pairsP_len (ps : List fU) : 4 * ps.length ≤ (eX ps).length := by
 induction ps with
 | nil => simp [eX]
 | cons p l ih =>
  unfold eX at ih ⊢
  have e : ∀ n, (be2 n).length = 2 := fun _ => rfl
  simp only [List.map_cons, List.flatten_cons, List.length_append, List.length_cons, e]
  omega
theorem pairsP_take (ps : List fU) (j : Nat) : (eX (ps.take j)).length ≤ (eX ps).length := by
 have h : eX ps = eX (ps.take j) ++ eX (ps.drop j) := by
  unfold eX
  rw [← List.flatten_append, ← List.map_append, List.take_append_drop]
 rw [h, List.length_append]; omega
section
variable {A : Nat → Addr} {V V0 : Vw} {w w00 : World} {L : List (Nat × Obj)} {msg : Value} {bm bb p0 : Nat} {pre out s bx : List UInt8} {t : List (List UInt8 × Nat)} {ps : List fU}
set_option maxHeartbeats 1000000 in
theorem p_bodySOA (hG : Gl A V) (hs : Sl 5 1 ⟨w00, V0, V⟩ w ((bm, eM t) :: L) msg (pre.length + out.length) ((pre ++ out).map eA)) (hm : pre.length + out.length ≤ 68719476736) (hk : Keys t) (h255 : s.length ≤ 255) (hx255 : bx.length ≤ 255) {n1 n2 n3 n4 n5 : Nat} (hB : fG ⟨w00, V0, V⟩ L bb p0 (nmC s s.length ++ (nmC bx bx.length ++ [.int .u32 n1, .int .u32 n2, .int .u32 n3, .int .u32 n4, .int .u32 n5]))) :
  eC Tryz.prog 234 #[.pointer (some ⟨bb, p0, none⟩), msg, .map (some bm), .int .i64 (pre.length : Nat)] w (PackQ A w00 V0 V L bm pre (((nameP true s ⟨out, t⟩).bind fun w => nameP true bx w).map fun w => ((((w.put (be4 n1)).put (be4 n2)).put (be4 n3)).put (be4 n4)).put (be4 n5))) := by
 have hM : ∀ {t : List (List UInt8 × Nat)}, ∀ x ∈ L, x ∈ (bm, eM t) :: L := fun x hx => List.mem_cons_of_mem _ hx
 have hN : NameW ⟨w00, V0, V⟩ L bb p0 s := ⟨h255, hB.part 0 (fun j u hu => at0 j hu)⟩
 have hN2 : NameW ⟨w00, V0, V⟩ L bb (p0 + 256) bx := ⟨hx255, hB.part 256 (fun j u hu => at256 h255 j (by
  have hl : j < (nmC bx bx.length).length := (List.getElem?_eq_some_iff.1 hu).1
  rw [List.getElem?_append_left hl]; exact hu))⟩
 refine aT [_, _, _, _] Tryz.func234 Tryz.ntmps234 Tryz.results234 rfl rfl (dP (dN rfl rfl (dN rfl rfl (aH (dP (dM rfl rfl (dN rfl rfl (aH (dP (dM rfl rfl (lp (aN rfl) rfl (lp (po_fa0' fo_173_0 rfl) rfl (dM rfl rfl ?_)))))))))))))
 refine dM rfl rfl (dM rfl rfl (aZ ok_144 rfl rfl (p_nameT hG hs (by omega) hN hk) rfl (fun v20 w HF => ?_)))
 obtain ⟨mv, e, k, rfl, he, hr⟩ := HF
 clear hs
 refine dM rfl rfl (dO rfl rfl rfl (dO rfl rfl rfl (dN rfl rfl (dN rfl rfl (aH (aF (dP (dM rfl rfl (lp (bB he rfl) rfl (aH (bH rfl (fun hc0 => ?_) (fun hc0 => ?_))))))))))))
 obtain ⟨hno, t', hs⟩ := PackQ.bad hr hc0
 refine dP (dM rfl rfl (dM rfl rfl (lp (bL rfl (by (simp only [List.all_cons, List.all_nil, he.oneCell]; rfl)) (eI _ _)) rfl (aJ (cR hs rfl rfl rfl (fun b28 w hb28 hbe28 hs => ?_))))))
 replace hs := hs.drop hb28
 refine lp (cG Tryz.underlying139 (fun _ h => by cases h) rfl) rfl (dN rfl rfl (dN rfl rfl (aH (aV ⟨_, fX rfl rfl, ?_⟩))))
 exact ⟨_, _, .other, rfl, dA, .inr ⟨rfl, by rw [hno]; rfl, t', hs⟩⟩
 obtain ⟨w2, hn, hk2, hs⟩ := PackQ.good hr hc0
 have hgrow := eW hn
 simp only at hgrow
 refine aW (dP (dM rfl rfl (lp (aN rfl) rfl (lp (bD fo_173_1 rfl) rfl (dM rfl rfl (dM rfl rfl (dM rfl rfl (aZ ok_144 rfl rfl (p_nameT hG hs (by omega) hN2 hk2) rfl (fun v37 w HF => ?_)))))))))
 obtain ⟨mv2, e2, k2, rfl, he, hr2⟩ := HF
 clear hs
 refine dM rfl rfl (dO rfl rfl rfl (dO rfl rfl rfl (dN rfl rfl (dN rfl rfl (aH (aF (dP (dM rfl rfl (lp (bB he rfl) rfl (aH (bH rfl (fun hc1 => ?_) (fun hc1 => ?_))))))))))))
 obtain ⟨hno2, t', hs⟩ := PackQ.bad hr2 hc1
 have hno2' : nameP true bx w2 = none := hno2
 refine dP (dM rfl rfl (dM rfl rfl (lp (bL rfl (by (simp only [List.all_cons, List.all_nil, he.oneCell]; rfl)) (eI _ _)) rfl (aJ (cR hs rfl rfl rfl (fun b45 w hb45 hbe45 hs => ?_))))))
 replace hs := hs.drop hb45
 refine lp (cG Tryz.underlying139 (fun _ h => by cases h) rfl) rfl (dN rfl rfl (dN rfl rfl (aH (aV ⟨_, fX rfl rfl, ?_⟩))))
 exact ⟨_, _, .other, rfl, dA, .inr ⟨rfl, by rw [hn, Option.bind_some, hno2']; rfl, t', hs⟩⟩
 obtain ⟨w3, hn2, hk3, hs⟩ := PackQ.good hr2 hc1
 have hgrow2 := eW hn2
 simp only at hgrow2
 have hn2' : nameP true bx w2 = some w3 := hn2
 refine aW (dP (dM rfl rfl (dM rfl rfl (lp (aN rfl) rfl (lp (bD fo_173_2 rfl) rfl (lp (aO rfl (bR cB (hB.ld hs.st hM 512 (at256 h255 (256 + 0) (at256 hx255 0 rfl))))) rfl (aZ ok_187 rfl rfl (p_packUint32 hs (by omega) n1) rfl (fun v52 w HF => ?_))))))))
 obtain _ := HF
 replace hs := Sl.more HF rfl
 refine dN rfl rfl (aH (dP (dM rfl rfl (dM rfl rfl (lp (aN rfl) rfl (lp (bD fo_173_3 rfl) rfl (lp (aO rfl (bR cB (hB.ld hs.st hM 513 (at256 h255 (256 + 1) (at256 hx255 1 rfl))))) rfl (aZ ok_187 rfl rfl (p_packUint32 hs (by simp [be4]; omega) n2) rfl (fun v58 w HF => ?_)))))))))
 obtain _ := HF
 replace hs := Sl.more HF rfl
 refine dN rfl rfl (aH (dP (dM rfl rfl (dM rfl rfl (lp (aN rfl) rfl (lp (bD fo_173_4 rfl) rfl (lp (aO rfl (bR cB (hB.ld hs.st hM 514 (at256 h255 (256 + 2) (at256 hx255 2 rfl))))) rfl (aZ ok_187 rfl rfl (p_packUint32 hs (by simp [be4]; omega) n3) rfl (fun v64 w HF => ?_)))))))))
 obtain _ := HF
 replace hs := Sl.more HF rfl
 refine dN rfl rfl (aH (dP (dM rfl rfl (dM rfl rfl (lp (aN rfl) rfl (lp (bD fo_173_5 rfl) rfl (lp (aO rfl (bR cB (hB.ld hs.st hM 515 (at256 h255 (256 + 3) (at256 hx255 3 rfl))))) rfl (aZ ok_187 rfl rfl (p_packUint32 hs (by simp [be4]; omega) n4) rfl (fun v70 w HF => ?_)))))))))
 obtain _ := HF
 replace hs := Sl.more HF rfl
 refine dN rfl rfl (aH (dP (dM rfl rfl (dM rfl rfl (lp (aN rfl) rfl (lp (bD fo_173_6 rfl) rfl (lp (aO rfl (bR cB (hB.ld hs.st hM 516 (at256 h255 (256 + 4) (at256 hx255 4 rfl))))) rfl (aZ ok_187 rfl rfl (p_packUint32 hs (by simp [be4]; omega) n5) rfl (fun v76 w HF => ?_)))))))))
 obtain _ := HF
 replace hs := Sl.more HF rfl
 refine dN rfl rfl (dN rfl rfl (aH (aV ⟨_, fX rfl rfl, ?_⟩)))
 exact ⟨_, _, .ok, rfl, rfl, .inl ⟨((((w3.put (be4 n1)).put (be4 n2)).put (be4 n3)).put (be4 n4)).put (be4 n5), rfl, by rw [hn, Option.bind_some, hn2']; rfl, hk3, hs⟩⟩
set_option maxHeartbeats 2000000 in
theorem p_bodyOPT (hG : Gl A V) (hs : Sl 5 1 ⟨w00, V0, V⟩ w ((bm, eM t) :: L) msg (pre.length + out.length) ((pre ++ out).map eA)) (hm : pre.length + out.length ≤ 68719476736) (hk : Keys t) {pv : Value} (hP : eV V pv ps) (hsum : (eX ps).length ≤ 68719476736) (hd : ∀ p ∈ ps, p.key < 65536 ∧ p.data.length < 65536) (hB : fG ⟨w00, V0, V⟩ L bb p0 [pv]) :
  eC Tryz.prog 253 #[.pointer (some ⟨bb, p0, none⟩), msg, .map (some bm), .int .i64 (pre.length : Nat)] w (PackQ A w00 V0 V L bm pre (some ((⟨out, t⟩ : Ink).put (eX ps)))) := by
 have hM : ∀ {t : List (List UInt8 × Nat)}, ∀ x ∈ L, x ∈ (bm, eM t) :: L := fun x hx => List.mem_cons_of_mem _ hx
 obtain ⟨xs, hS, hR⟩ := hP
 obtain ⟨a, cap, rfl, hcap, ha⟩ := hS.form
 refine aT [_, _, _, _] Tryz.func253 Tryz.ntmps253 Tryz.results253 rfl rfl (dP (dN rfl rfl (dN rfl rfl (aH (aF (dP (dM rfl rfl (lp (aN rfl) rfl (lp (po_fa0' fo_205_0 rfl) rfl (lp (aO rfl (bR k_203 (hB.ld hs.st hM 0 rfl))) rfl (lp (bC Tryz.underlying203 rfl) rfl (dM rfl rfl (aH ?_)))))))))))))
 refine bQ (dC (fun g : Nat × Value => eH (eH (eH (eH emp 18 (.int .i64 g.1)) 17 (.int .i64 ps.length)) 16 (.slice a ps.length cap)) 1 g.2) (fun g w => Sl 5 1 ⟨w00, V0, V⟩ w ((bm, eM t) :: L) g.2 (pre.length + (out ++ eX (ps.take g.1)).length) ((pre ++ (out ++ eX (ps.take g.1))).map eA) ∧ g.1 ≤ ps.length) (fun g => ps.length - g.1) (0, msg) (aL rfl (aL rfl (aL rfl (aL rfl (bG _))))) ⟨by simpa [eX] using hs, Nat.zero_le _⟩ ?_)
 clear hs
 rintro ⟨j, sv⟩ w ⟨hs, hj⟩
 simp only at hs hj ⊢
 have hpt := pairsP_take ps j
 have hpl := pairsP_len ps
 have hop := hs.open
 refine dP (lp (cY rfl rfl) rfl (aH (aF (bH rfl (fun hc0 => ?_) (fun hc0 => ?_)))))
 clear hs
 obtain ⟨X, hX, hs⟩ := hop
 obtain ⟨b, p, rfl, hc⟩ := ha (by omega)
 have hjl : j < ps.length := by omega
 obtain ⟨c, ⟨vd, rfl, hRB⟩, hcl, hct⟩ := hR.at (List.getElem?_eq_getElem hjl)
 obtain ⟨hkey, hdl⟩ := hd _ (List.getElem_mem hjl)
 obtain ⟨av, cv, hav, hcv, _⟩ := hRB.form
 subst hav
 refine aW (aF (bQ (dP (lp (eZ j (p + j * 2) es_203 rfl rfl rfl hjl rfl) rfl ?_))))
 refine lp (aO rfl (ld_cells (l := [.int .u16 ps[j].key, .slice av ps[j].data.length cv]) k_304 rfl (fun i u hu => by
  rw [Nat.add_assoc]
  exact Vw.cell_in hs.isIn (hc _ _ (fN hct hu))))) rfl ?_
 refine aJ (aX hs z_304 rfl (fun b11 w hb11 he11 hs => aJ (dR 0 hs k_304 rfl rfl rfl rfl rfl (aG rfl) rfl (fun w hs => aH (dP (dM rfl rfl (lp (aR fo_304_0 rfl) rfl (lp (aO rfl (aQ eS (hs.g 0 rfl) rfl)) rfl (aZ ok_143 rfl rfl (fI (SlX.close (L := _ :: _ :: L) hX hs) (by simp; omega) ps[j].key hkey) rfl (fun v25 w HF => ?_))))))))))
 obtain _ := HF
 replace hs := Sl.more HF rfl
 refine dN rfl rfl (aH (dP (lp (aR fo_304_1 rfl) rfl (lp (aO rfl (aQ k_23 (hs.st.get (k := 0) rfl) rfl)) rfl (lp (bC Tryz.underlying23 rfl) rfl (lp (bY Tryz.underlying3 Tryz.underlying22 rfl (u16c (c := ps[j].data.length) rfl (by omega))) rfl (dN rfl rfl (aH (dP (dM rfl rfl (dM rfl rfl (aZ ok_143 rfl rfl (fI hs (by simp [be2]; omega) ps[j].data.length (by omega)) rfl (fun v32 w HF => ?_)))))))))))))
 obtain _ := HF
 replace hs := Sl.more HF rfl
 refine dN rfl rfl (aH (aB (dM rfl rfl (lp (aR fo_304_1 rfl) rfl (lp (aO rfl (aQ k_23 (hs.st.get (k := 0) rfl) rfl)) rfl (aZ ok_226 rfl rfl (p_packBytes hs (by simp [be2]; omega) (hRB.src hs.isIn) (by omega)) rfl (fun v36 w HF => ?_)))))))
 obtain _ := HF
 replace hs := (Sl.more HF rfl).drop hb11
 refine dN rfl rfl (aH (aB (lp (bN rfl rfl (fV (c := j + 1) (by omega) (by omega))) rfl (dM rfl rfl (aH ?_)))))
 exact ⟨(j + 1, _), aL rfl (aL rfl (aL rfl (aL rfl (bG _)))), ⟨by rw [pairsP_succ (List.getElem?_eq_getElem hjl)]; simpa [List.append_assoc, Nat.add_assoc] using hs, by simp only; omega⟩, by simp only; omega⟩
 refine eT (dP (dM rfl rfl (dN rfl rfl (dN rfl rfl (aH (aV ⟨_, fX rfl rfl, ?_⟩))))))
 obtain rfl : j = ps.length := by omega
 exact ⟨_, _, .ok, rfl, rfl, .inl ⟨(⟨out, t⟩ : Ink).put (eX ps), rfl, rfl, hk, by simpa [Ink.put] using hs⟩⟩
end
end Go.Proofs.YtgpfjlfkaoffeaaGreatDoor
namespace Go.Proofs.YtgpfjlfkaoffeaaGreatDoor
open Go
def zeroBehind (ps : List fU) : Bool := ps.tail.any fun p => p.key == 0
theorem zeroBehind_at {ps : List fU} {j : Nat} (hj : 0 < j) (hl : j < ps.length) (h : ps[j].key = 0) : zeroBehind ps = true := by
 unfold zeroBehind
 rw [List.any_eq_true]
 refine ⟨ps[j], ?_, by simpa using h⟩
 obtain ⟨i, rfl⟩ : ∃ i, j = i + 1 := ⟨j - 1, by omega⟩
 cases ps with
 | nil => simp at hl
 | cons a l => simp
theorem zeroBehind_no {ps : List fU} (h : ∀ j, 0 < j → ∀ hl : j < ps.length, ps[j].key ≠ 0) : zeroBehind ps = false := by
 unfold zeroBehind
 rw [List.any_eq_false]
 intro p hp
 cases ps with
 | nil => simp at hp
 | cons a l =>
  simp only [List.tail_cons] at hp
  obtain ⟨i, hi, rfl⟩ := List.mem_iff_getElem.1 hp
  have := h (i + 1) (by omega) (by simpa using hi)
  simpa using this
section
variable {A : Nat → Addr} {V V0 : Vw} {w w00 : World} {L : List (Nat × Obj)} {msg : Value} {bm bb p0 : Nat} {pre out s bx : List UInt8} {t : List (List UInt8 × Nat)} {ps : List fU}
set_option maxHeartbeats 4000000 in
theorem p_bodySVCB (hG : Gl A V) (hs : Sl 5 1 ⟨w00, V0, V⟩ w ((bm, eM t) :: L) msg (pre.length + out.length) ((pre ++ out).map eA)) (hm : pre.length + out.length ≤ 68719476736) (hk : Keys t) (h255 : s.length ≤ 255) {n1 : Nat} (hn1 : n1 < 65536) {pv : Value} (hP : eV V pv ps) (hsum : (eX ps).length ≤ 68719476736) (hd : ∀ p ∈ ps, p.key < 65536 ∧ p.data.length < 65536)
  (hB : fG ⟨w00, V0, V⟩ L bb p0 (.int .u16 n1 :: (nmC s s.length ++ [pv]))) {off : Int} :
  eC Tryz.prog 256 #[.pointer (some ⟨bb, p0, none⟩), msg, .map (some bm), .int .i64 off] w (PackQ A w00 V0 V L bm pre ((nameP false s ((⟨out, t⟩ : Ink).put (be2 n1))).bind fun w => if zeroBehind ps = true then none else some (w.put (eX ps)))) := by
 have hM : ∀ {t : List (List UInt8 × Nat)}, ∀ x ∈ L, x ∈ (bm, eM t) :: L := fun x hx => List.mem_cons_of_mem _ hx
 obtain ⟨xs, hS, hR⟩ := hP
 obtain ⟨a, cap, rfl, hcap, ha⟩ := hS.form
 have hN : NameW ⟨w00, V0, V⟩ L bb (p0 + 1) s := ⟨h255, hB.part 1 (fun j u hu => by
  have hl : j < (nmC s s.length).length := (List.getElem?_eq_some_iff.1 hu).1
  rw [Nat.add_comm, List.getElem?_cons_succ, List.getElem?_append_left hl]; exact hu)⟩
 refine aT [_, _, _, _] Tryz.func256 Tryz.ntmps256 Tryz.results256 rfl rfl (dP (dN rfl rfl (dN rfl rfl (aH (dP (dM rfl rfl (dN rfl rfl (aH (dP (dM rfl rfl (dM rfl rfl (lp (aN rfl) rfl (lp (po_fa0' fo_211_0 rfl) rfl ?_)))))))))))))
 refine lp (aO rfl (bR eS (hB.ld hs.st hM 0 rfl))) rfl (aZ ok_143 rfl rfl (fI hs (by omega) n1 hn1) rfl (fun v21 w HF => ?_))
 obtain _ := HF
 replace hs := Sl.more HF rfl
 refine dN rfl rfl (aH (dP (dM rfl rfl (lp (aN rfl) rfl (lp (bD fo_211_1 rfl) rfl (dM rfl rfl (aZ ok_144 rfl rfl (p_nameF (pre := []) (out := pre ++ (out ++ be2 n1)) hG (by simpa using hs) (by simp [be2]; omega) (hN.more hM) hk) rfl (fun v27 w HF => ?_))))))))
 obtain ⟨mv, e, k, rfl, he, hr⟩ := HF
 clear hs
 refine dM rfl rfl (dO rfl rfl rfl (dO rfl rfl rfl (dN rfl rfl (dN rfl rfl (aH (aF (dP (dM rfl rfl (lp (bB he rfl) rfl (aH (bH rfl (fun hc0 => ?_) (fun hc0 => ?_))))))))))))
 obtain ⟨hno, hs⟩ := PackQ.badF hr hc0
 have hno' : nameF s = none := by rw [nameP_F] at hno; simpa using hno
 refine dP (dM rfl rfl (dM rfl rfl (lp (bL rfl (by (simp only [List.all_cons, List.all_nil, he.oneCell]; rfl)) (eI _ _)) rfl (aJ (cR hs rfl rfl rfl (fun b35 w hb35 hbe35 hs => ?_))))))
 replace hs := hs.drop hb35
 refine lp (cG Tryz.underlying139 (fun _ h => by cases h) rfl) rfl (dN rfl rfl (dN rfl rfl (aH (aV ⟨_, fX rfl rfl, ?_⟩))))
 exact ⟨_, _, .other, rfl, dA, .inr ⟨rfl, by rw [nameP_F, hno']; rfl, t, hs⟩⟩
 obtain ⟨w2, hn, _, hs⟩ := PackQ.goodF hr hc0
 obtain ⟨nb, hnb, hs⟩ : ∃ nb, nameF s = some nb ∧ Sl 5 1 ⟨w00, V0, V⟩ w ((bm, eM t) :: L) mv (pre.length + (out ++ be2 n1 ++ nb).length) ((pre ++ (out ++ be2 n1 ++ nb)).map eA) := by
  rw [nameP_F] at hn
  obtain ⟨nb, h3, rfl⟩ := Option.map_eq_some_iff.1 hn
  exact ⟨nb, h3, by simpa [Nat.add_assoc, List.append_assoc] using hs⟩
 have hgrow : nb.length ≤ 2 * s.length + 2 := by
  have := eW (short := false) (s := s) (w := {}) (w2 := ⟨nb, []⟩) (by rw [nameP_F, hnb]; rfl)
  simpa using this
 refine aW (dP (dN rfl rfl (aH (aF (dP (dM rfl rfl (lp (aN rfl) rfl (lp (bD fo_211_2 rfl) rfl (lp (aO rfl (bR k_209 (hB.ld hs.st hM 257 (by rw [show 257 = 256 + 0 + 1 by rfl, List.getElem?_cons_succ]; exact at256 h255 0 rfl)))) rfl (lp (bC Tryz.underlying209 rfl) rfl (dM rfl rfl (aH (bQ ?_)))))))))))))
 refine dC (fun g : Nat × Value => eH (eH (eH (eH (eH (eH emp 42 (.int .i64 g.1)) 41 (.int .i64 ps.length)) 40 (.slice a ps.length cap)) 12 (.int .u16 0)) 10 msg) 1 g.2) (fun g w => Sl 5 1 ⟨w00, V0, V⟩ w ((bm, eM t) :: L) g.2 (pre.length + (out ++ be2 n1 ++ nb ++ eX (ps.take g.1)).length) ((pre ++ (out ++ be2 n1 ++ nb ++ eX (ps.take g.1))).map eA) ∧ g.1 ≤ ps.length ∧ ∀ q, 0 < q → q < g.1 → ∀ hl : q < ps.length, ps[q].key ≠ 0) (fun g => ps.length - g.1) (0, mv) (aL rfl (aL rfl (aL rfl (aL rfl (aL rfl (aL rfl (bG _))))))) ⟨by simpa [eX] using hs, Nat.zero_le _, fun q h1 h2 => by omega⟩ ?_
 clear hs
 rintro ⟨j, sv⟩ w ⟨hs, hj, hnz⟩
 simp only at hs hj hnz ⊢
 have hpt := pairsP_take ps j
 have hpl := pairsP_len ps
 have hop := hs.open
 refine dP (lp (cY rfl rfl) rfl (aH (aF (bH rfl (fun hc1 => ?_) (fun hc1 => ?_)))))
 clear hs
 obtain ⟨X, hX, hs⟩ := hop
 obtain ⟨b, p, rfl, hc⟩ := ha (by omega)
 have hjl : j < ps.length := by omega
 obtain ⟨c, ⟨vd, rfl, hRB⟩, hcl, hct⟩ := hR.at (List.getElem?_eq_getElem hjl)
 obtain ⟨hkey, hdl⟩ := hd _ (List.getElem_mem hjl)
 obtain ⟨av, cv, hav, hcv, _⟩ := hRB.form
 subst hav
 refine aW (aF (bQ (dP (dM rfl rfl (lp (eZ j (p + j * 2) es_209 rfl rfl rfl hjl rfl) rfl ?_)))))
 refine lp (aO rfl (ld_cells (l := [.int .u16 ps[j].key, .slice av ps[j].data.length cv]) k_345 rfl (fun i u hu => by
  rw [Nat.add_assoc]
  exact Vw.cell_in hs.isIn (hc _ _ (fN hct hu))))) rfl ?_
 refine aJ (aX hs z_345 rfl (fun b14 w hb14 he14 hs => dN rfl rfl (aJ (dR 0 hs k_345 rfl rfl rfl rfl rfl (aG rfl) rfl (fun w hs => aH (aF (dG (fun ρ w => Sub (eH (eH (eH (eH (eH (eH (eH (eH emp 54 (.bool (decide (0 < j ∧ ps[j].key = 0)))) 14 (.pointer (some ⟨b14, 0, none⟩))) 42 (.int .i64 j)) 41 (.int .i64 ps.length)) 40 (.slice (some ⟨b, p, none⟩) ps.length cap)) 12 (.int .u16 0)) 10 msg) 1 sv) ρ ∧ St ⟨w00, V0, V⟩ w ((b14, .cells [Value.int .u16 ps[j].key, .slice av ps[j].data.length cv].toArray 345 (0, 0)) :: (((bm, eM t) :: L) ++ X))) ?_ ?_)))))))
 rcases Nat.eq_zero_or_pos j with hj0 | hj0
 have hg : false = !true := rfl
 refine aB (dM rfl rfl (lp (po_gtrF rfl rfl (by omega)) rfl (dM rfl rfl (aU rfl rfl hg rfl (aU rfl rfl hg rfl (aU rfl rfl hg rfl (aU rfl rfl hg rfl (lp (bW rfl rfl rfl) rfl (aH ?_)))))))))
 have hdv : false = decide (0 < j ∧ ps[j].key = 0) := by symm; apply decide_eq_false; omega
 exact ⟨aL rfl (aL rfl (aL rfl (aL rfl (aL rfl (aL rfl (aL rfl (aL (congrArg (fun q => some (Value.bool q)) hdv) (bG _)))))))), hs⟩
 have hg : true = true := rfl
 refine aB (dM rfl rfl (lp (po_gtrT rfl rfl (by omega)) rfl (dM rfl rfl (lg rfl rfl hg (aR fo_345_0 rfl) rfl (lg rfl rfl rfl (aO rfl (aQ k_343 (hs.g 0 rfl) rfl)) rfl (lg rfl rfl hg (aC rfl) rfl (lg rfl rfl hg (po_leq rfl rfl) rfl (lp (bO rfl rfl rfl) rfl (aH ?_)))))))))
 have hdv : decide (((ps[j].key : Nat) : Int) ≤ 0) = decide (0 < j ∧ ps[j].key = 0) := by apply decide_eq_decide.2; omega
 exact ⟨aL rfl (aL rfl (aL rfl (aL rfl (aL rfl (aL rfl (aL rfl (aL (congrArg (fun q => some (Value.bool q)) hdv) (bG _)))))))), hs⟩
 clear hs
 rintro ρ w ⟨hsub, hs⟩
 refine EW.weaken hsub (bH rfl (fun hc2 => ?_) (fun hc2 => ?_))
 refine aF (bV hs [1] mixed (fun w hs => dI 0 rfl (fun w => aC rfl) rfl rfl (dJ 1 rfl hs rfl (fun w hs => (aO rfl (bR k_57 (hG.ld hs.isIn (g := 20) rfl)))) rfl (dI 2 rfl (fun w => (bL rfl (by rfl) (eI _ _))) rfl rfl (dI 5 rfl (fun w => aD rfl) rfl rfl (dL 3 rfl (cR hs rfl rfl rfl (fun b58 w hb58 hbe58 hs => ?_))))))))
 replace hs := hs.drop hb58
 refine ⟨fun _ => hs, dI 4 rfl (fun w => (cG Tryz.underlying139 (fun _ h => by cases h) rfl)) rfl rfl (dI 6 rfl (fun w => aD rfl) rfl rfl (bS (by decide +kernel) (aV ⟨_, fX rfl rfl, ?_⟩)))⟩
 exact ⟨_, _, .other, rfl, dA, .inr ⟨rfl, by rw [nameP_F, hnb]; show (if zeroBehind ps = true then none else _) = none; rw [if_pos (zeroBehind_at hc2.1 hjl hc2.2)], t, (SlX.close (L := (bm, eM t) :: L) hX (hs.drop hb14)).st⟩⟩
 refine aW (aF (dP (lp (aR fo_345_1 rfl) rfl (lp (aO rfl (aQ k_23 (hs.g 0 rfl) rfl)) rfl (lp (bC Tryz.underlying23 rfl) rfl (lp (cQ rfl rfl) rfl (aH (bH rfl (fun hc3 => ?_) (fun hc3 => ?_)))))))))
 exact absurd hc3 (by omega)
 refine aW (dP (dM rfl rfl (lp (aR fo_345_0 rfl) rfl (lp (aO rfl (aQ k_343 (hs.g 0 rfl) rfl)) rfl (aZ ok_143 rfl rfl (fI (SlX.close (L := _ :: _ :: L) hX hs) (by simp [be2]; omega) ps[j].key hkey) rfl (fun v72 w HF => ?_))))))
 obtain _ := HF
 replace hs := Sl.more HF rfl
 refine dN rfl rfl (aH (dP (dM rfl rfl (lp (aR fo_345_1 rfl) rfl (lp (aO rfl (aQ k_23 (hs.st.get (k := 0) rfl) rfl)) rfl (lp (bC Tryz.underlying23 rfl) rfl (lp (bY Tryz.underlying3 Tryz.underlying22 rfl (u16c (c := ps[j].data.length) rfl (by omega))) rfl (aZ ok_143 rfl rfl (fI hs (by simp [be2]; omega) ps[j].data.length (by omega)) rfl (fun v78 w HF => ?_)))))))))
 obtain _ := HF
 replace hs := Sl.more HF rfl
 refine dN rfl rfl (aH (aB (dM rfl rfl (lp (aR fo_345_1 rfl) rfl (lp (aO rfl (aQ k_23 (hs.st.get (k := 0) rfl) rfl)) rfl (aJ (fA (k := ps[j].data.length) (news := ps[j].data.map eA) el_23 (.inr ⟨_, Tryz.underlying23⟩) hs rfl rfl (hRB.src hs.isIn) (dH _) (by simp [be2]; omega) (by simp [be2]; omega) rfl (fun v82 w hs => ?_))))))))
 replace hs := (Sl.more (by rw [← List.map_append] at hs; exact hs) rfl).drop hb14
 refine dN rfl rfl (aH (aB (lp (bN rfl rfl (fV (c := j + 1) (by omega) (by omega))) rfl (dM rfl rfl (aH ?_)))))
 exact ⟨(j + 1, _), aL rfl (aL rfl (aL rfl (aL rfl (aL rfl (aL rfl (bG _)))))), ⟨by rw [pairsP_succ (List.getElem?_eq_getElem hjl)]; simpa [List.append_assoc, Nat.add_assoc] using hs, by simp only; omega, fun q h1 h2 hl => by
  by_cases hq : q = j
  subst hq; exact fun h => hc2 ⟨h1, h⟩
  exact hnz q h1 (by simp only at h2; omega) hl⟩, by simp only; omega⟩
 refine eT (dP (dM rfl rfl (dN rfl rfl (dN rfl rfl (aH (aV ⟨_, fX rfl rfl, ?_⟩))))))
 obtain rfl : j = ps.length := by omega
 have hz := zeroBehind_no (ps := ps) (fun q h1 hl => hnz q h1 hl hl)
 exact ⟨_, _, .ok, rfl, rfl, .inl ⟨⟨out ++ be2 n1 ++ nb ++ eX ps, t⟩, rfl, by rw [nameP_F, hnb]; show (if zeroBehind ps = true then none else _) = _; rw [hz]; rfl, hk, by simpa using hs⟩⟩
end
end Go.Proofs.YtgpfjlfkaoffeaaGreatDoor
namespace Go.Proofs.YtgpfjlfkaoffeaaGreatDoor
open Go
theorem textsP_succ {ts : List (List UInt8)} {j : Nat} {s : List UInt8} (h : ts[j]? = some s) : fE (ts.take (j + 1)) = fE (ts.take j) ++ (UInt8.ofNat s.length :: s) := by
 unfold fE
 rw [List.take_add_one, h]
 simp
theorem textsP_take (ts : List (List UInt8)) (j : Nat) : (fE (ts.take j)).length ≤ (fE ts).length := by
 have h : fE ts = fE (ts.take j) ++ fE (ts.drop j) := by
  unfold fE
  rw [← List.flatten_append, ← List.map_append, List.take_append_drop]
 rw [h, List.length_append]; omega
theorem textsP_len (ts : List (List UInt8)) : ts.length ≤ (fE ts).length := by
 induction ts with
 | nil => simp [fE]
 | cons p l ih =>
  unfold fE at ih ⊢
  simp only [List.map_cons, List.flatten_cons, List.length_append, List.length_cons]
  omega
section
variable {A : Nat → Addr} {V V0 : Vw} {w w00 : World} {L : List (Nat × Obj)} {msg : Value} {bm bb p0 : Nat} {pre out s : List UInt8} {t : List (List UInt8 × Nat)} {ts : List (List UInt8)}
theorem p_packText (hs : Sl 5 1 ⟨w00, V0, V⟩ w L msg (pre.length + out.length) ((pre ++ out).map eA)) (hm : pre.length + out.length ≤ 549755813888) (h255 : s.length ≤ 255) :
  eC Tryz.prog 245 #[msg, fR s] w fun v w' => ∃ mv, v = .tuple #[mv, .nilIface] ∧ Sl 5 1 ⟨w00, V0, V⟩ w' L mv (pre.length + (out ++ (UInt8.ofNat s.length :: s)).length) ((pre ++ (out ++ (UInt8.ofNat s.length :: s))).map eA) := by
 have hsz := ofBytes_size s
 refine aT [_, _] Tryz.func245 Tryz.ntmps245 Tryz.results245 rfl rfl (dP (dN rfl rfl (dN rfl rfl (aH (dP (dM rfl rfl (lp (po_len_str Tryz.underlying9 rfl) rfl (dN rfl rfl (aH (aF (dP (dM rfl rfl (lp (cQ rfl rfl) rfl ?_)))))))))))))
 refine aH (bH rfl (fun hc0 => ?_) (fun hc0 => ?_))
 exact absurd hc0 (by omega)
 refine aW (dP (dM rfl rfl (dM rfl rfl (lp (bY Tryz.underlying3 Tryz.underlying5 rfl u8lo) rfl (l_appB [UInt8.ofNat (fB s).size] el_23 hs (fun _ => rfl) rfl rfl rfl (by decide) (by decide) (by omega) (by omega) rfl rfl (fun b15 v16 w hs => ?_))))))
 skip
 refine dN rfl rfl (aH (dP (dM rfl rfl (dM rfl rfl (aJ (fA (k := s.length) (news := s.map eA) el_23 (.inl Tryz.underlying9) hs rfl rfl (src_string (s := fB s)) (dH _) (by omega) (by omega) rfl (fun v19 w hs => ?_)))))))
 rw [← List.map_append, hsz] at hs
 refine dN rfl rfl (aH (dP (dM rfl rfl (dN rfl rfl (dN rfl rfl (aH (aV ⟨_, fX rfl rfl, ?_⟩)))))))
 exact ⟨_, rfl, by simpa [Nat.add_assoc, Nat.add_comm, Nat.add_left_comm, List.append_assoc] using hs⟩
set_option maxHeartbeats 2000000 in
theorem p_bodyTXT (hG : Gl A V) (hs : Sl 5 1 ⟨w00, V0, V⟩ w ((bm, eM t) :: L) msg (pre.length + out.length) ((pre ++ out).map eA)) (hm : pre.length + out.length ≤ 68719476736) (hk : Keys t) {pv : Value} (hT : fF V pv ts) (hsum : (fE ts).length ≤ 68719476736) (hd : ∀ s ∈ ts, s.length ≤ 255) (hB : fG ⟨w00, V0, V⟩ L bb p0 [pv]) :
  eC Tryz.prog 243 #[.pointer (some ⟨bb, p0, none⟩), msg, .map (some bm), .int .i64 (pre.length : Nat)] w (PackQ A w00 V0 V L bm pre (some ((⟨out, t⟩ : Ink).put (fE ts)))) := by
 have hM : ∀ {t : List (List UInt8 × Nat)}, ∀ x ∈ L, x ∈ (bm, eM t) :: L := fun x hx => List.mem_cons_of_mem _ hx
 obtain ⟨a, cap, rfl, hcap, ha⟩ := SlV.form hT
 refine aT [_, _, _, _] Tryz.func243 Tryz.ntmps243 Tryz.results243 rfl rfl (dP (dN rfl rfl (dN rfl rfl (aH (dP (dM rfl rfl (dN rfl rfl (aH (aF (dP (dM rfl rfl (lp (aN rfl) rfl (lp (po_fa0' fo_188_0 rfl) rfl ?_)))))))))))))
 refine lp (aO rfl (bR k_28 (hB.ld hs.st hM 0 rfl))) rfl (lp (bC Tryz.underlying28 rfl) rfl (dM rfl rfl (aH (bQ (dC (fun g : Nat × Value => eH (eH (eH (eH (eH emp 20 (.int .i64 g.1)) 19 (.int .i64 ts.length)) 18 (.slice a ts.length cap)) 10 msg) 1 g.2) (fun g w => Sl 5 1 ⟨w00, V0, V⟩ w ((bm, eM t) :: L) g.2 (pre.length + (out ++ fE (ts.take g.1)).length) ((pre ++ (out ++ fE (ts.take g.1))).map eA) ∧ g.1 ≤ ts.length) (fun g => ts.length - g.1) (0, msg) (aL rfl (aL rfl (aL rfl (aL rfl (aL rfl (bG _)))))) ⟨by simpa [fE] using hs, Nat.zero_le _⟩ ?_)))))
 clear hs
 rintro ⟨j, sv⟩ w ⟨hs, hj⟩
 simp only at hs hj ⊢
 have hpt := textsP_take ts j
 have hpl := textsP_len ts
 refine dP (lp (cY rfl rfl) rfl (aH (aF (bH rfl (fun hc0 => ?_) (fun hc0 => ?_)))))
 obtain ⟨b, p, rfl, hc⟩ := ha (by omega)
 have hjl : j < ts.length := by omega
 have hdl := hd _ (List.getElem_mem hjl)
 have hcl : V.cell b (p + j) = some (fR ts[j]) := hc j _ (by rw [List.getElem?_map, List.getElem?_eq_getElem hjl]; rfl)
 refine aW (aF (bQ (dP (lp (eZ j (p + j) es_28 rfl rfl rfl hjl (by omega)) rfl (lp (aO rfl (bR (v := fR ts[j]) k_9 (Vw.cell_in hs.isIn hcl))) rfl (dN rfl rfl (aH (dP (dN rfl rfl (aH (dP (dM rfl rfl (dM rfl rfl ?_)))))))))))))
 refine aZ ok_245 rfl rfl (p_packText hs (by simp; omega) hdl) rfl (fun v27 w HF => ?_)
 obtain ⟨mv, rfl, hs2⟩ := HF
 replace hs := hs2
 refine dM rfl rfl (dO rfl rfl rfl (dO rfl rfl rfl (dN rfl rfl (dN rfl rfl (aH (dP (dM rfl rfl (lp (bB (A := A) (k := .ok) rfl rfl) rfl (aH (bH rfl (fun hc1 => ?_) (fun hc1 => ?_)))))))))))
 exact absurd rfl hc1
 refine aW (aB (lp (bN rfl rfl (fV (c := j + 1) (by omega) (by omega))) rfl (dM rfl rfl (aH ?_))))
 exact ⟨(j + 1, _), aL rfl (aL rfl (aL rfl (aL rfl (aL rfl (bG _))))), ⟨by rw [textsP_succ (List.getElem?_eq_getElem hjl)]; simpa [List.append_assoc, Nat.add_assoc] using hs, by simp only; omega⟩, by simp only; omega⟩
 refine eT (dP (dM rfl rfl (dN rfl rfl (dN rfl rfl (aH (aV ⟨_, fX rfl rfl, ?_⟩))))))
 obtain rfl : j = ts.length := by omega
 exact ⟨_, _, .ok, rfl, rfl, .inl ⟨(⟨out, t⟩ : Ink).put (fE ts), rfl, rfl, hk, by simpa [Ink.put] using hs⟩⟩
end
end Go.Proofs.YtgpfjlfkaoffeaaGreatDoor
namespace Go.Proofs.YtgpfjlfkaoffeaaGreatDoor
open Go
section
variable {A : Nat → Addr} {V V0 : Vw} {w w00 : World} {L M : List (Nat × Obj)} {msg : Value} {bm bb p0 : Nat} {pre out s : List UInt8} {t : List (List UInt8 × Nat)} {B : Base}
theorem p_realA (hs : St B w M) (x : Value) : eC Tryz.prog 225 #[x] w fun v w' => v = .int .u16 1 ∧ St B w' M := by
 refine aT [_] Tryz.func225 Tryz.ntmps225 Tryz.results225 rfl rfl (dP (dN rfl rfl (aH (dP (dN rfl rfl (aH (aV ⟨_, fW rfl, ?_⟩)))))))
 exact ⟨rfl, hs⟩
theorem p_realNS (hs : St B w M) (x : Value) : eC Tryz.prog 229 #[x] w fun v w' => v = .int .u16 2 ∧ St B w' M := by
 refine aT [_] Tryz.func229 Tryz.ntmps229 Tryz.results229 rfl rfl (dP (dN rfl rfl (aH (dP (dN rfl rfl (aH (aV ⟨_, fW rfl, ?_⟩)))))))
 exact ⟨rfl, hs⟩
theorem p_realCNAME (hs : St B w M) (x : Value) : eC Tryz.prog 232 #[x] w fun v w' => v = .int .u16 5 ∧ St B w' M := by
 refine aT [_] Tryz.func232 Tryz.ntmps232 Tryz.results232 rfl rfl (dP (dN rfl rfl (aH (dP (dN rfl rfl (aH (aV ⟨_, fW rfl, ?_⟩)))))))
 exact ⟨rfl, hs⟩
theorem p_realSOA (hs : St B w M) (x : Value) : eC Tryz.prog 235 #[x] w fun v w' => v = .int .u16 6 ∧ St B w' M := by
 refine aT [_] Tryz.func235 Tryz.ntmps235 Tryz.results235 rfl rfl (dP (dN rfl rfl (aH (dP (dN rfl rfl (aH (aV ⟨_, fW rfl, ?_⟩)))))))
 exact ⟨rfl, hs⟩
theorem p_realPTR (hs : St B w M) (x : Value) : eC Tryz.prog 238 #[x] w fun v w' => v = .int .u16 12 ∧ St B w' M := by
 refine aT [_] Tryz.func238 Tryz.ntmps238 Tryz.results238 rfl rfl (dP (dN rfl rfl (aH (dP (dN rfl rfl (aH (aV ⟨_, fW rfl, ?_⟩)))))))
 exact ⟨rfl, hs⟩
theorem p_realMX (hs : St B w M) (x : Value) : eC Tryz.prog 241 #[x] w fun v w' => v = .int .u16 15 ∧ St B w' M := by
 refine aT [_] Tryz.func241 Tryz.ntmps241 Tryz.results241 rfl rfl (dP (dN rfl rfl (aH (dP (dN rfl rfl (aH (aV ⟨_, fW rfl, ?_⟩)))))))
 exact ⟨rfl, hs⟩
theorem p_realTXT (hs : St B w M) (x : Value) : eC Tryz.prog 244 #[x] w fun v w' => v = .int .u16 16 ∧ St B w' M := by
 refine aT [_] Tryz.func244 Tryz.ntmps244 Tryz.results244 rfl rfl (dP (dN rfl rfl (aH (dP (dN rfl rfl (aH (aV ⟨_, fW rfl, ?_⟩)))))))
 exact ⟨rfl, hs⟩
theorem p_realAAAA (hs : St B w M) (x : Value) : eC Tryz.prog 248 #[x] w fun v w' => v = .int .u16 28 ∧ St B w' M := by
 refine aT [_] Tryz.func248 Tryz.ntmps248 Tryz.results248 rfl rfl (dP (dN rfl rfl (aH (dP (dN rfl rfl (aH (aV ⟨_, fW rfl, ?_⟩)))))))
 exact ⟨rfl, hs⟩
theorem p_realSRV (hs : St B w M) (x : Value) : eC Tryz.prog 251 #[x] w fun v w' => v = .int .u16 33 ∧ St B w' M := by
 refine aT [_] Tryz.func251 Tryz.ntmps251 Tryz.results251 rfl rfl (dP (dN rfl rfl (aH (dP (dN rfl rfl (aH (aV ⟨_, fW rfl, ?_⟩)))))))
 exact ⟨rfl, hs⟩
theorem p_realOPT (hs : St B w M) (x : Value) : eC Tryz.prog 254 #[x] w fun v w' => v = .int .u16 41 ∧ St B w' M := by
 refine aT [_] Tryz.func254 Tryz.ntmps254 Tryz.results254 rfl rfl (dP (dN rfl rfl (aH (dP (dN rfl rfl (aH (aV ⟨_, fW rfl, ?_⟩)))))))
 exact ⟨rfl, hs⟩
theorem p_realSVCB (hs : St B w M) (x : Value) : eC Tryz.prog 257 #[x] w fun v w' => v = .int .u16 64 ∧ St B w' M := by
 refine aT [_] Tryz.func257 Tryz.ntmps257 Tryz.results257 rfl rfl (dP (dN rfl rfl (aH (dP (dN rfl rfl (aH (aV ⟨_, fW rfl, ?_⟩)))))))
 exact ⟨rfl, hs⟩
theorem p_realHTTPS (hs : St B w M) (x : Value) : eC Tryz.prog 259 #[x] w fun v w' => v = .int .u16 65 ∧ St B w' M := by
 refine aT [_] Tryz.func259 Tryz.ntmps259 Tryz.results259 rfl rfl (dP (dN rfl rfl (aH (dP (dN rfl rfl (aH (aV ⟨_, fW rfl, ?_⟩)))))))
 exact ⟨rfl, hs⟩
theorem p_realUnknown (hs : St B w M) {ty : Nat} {dv : Value} (hL : ∀ x ∈ L, x ∈ M) (hB : fG B L bb p0 [.int .u16 ty, dv]) : eC Tryz.prog 262 #[.pointer (some ⟨bb, p0, none⟩)] w fun v w' => v = .int .u16 ty ∧ St B w' M := by
 refine aT [_] Tryz.func262 Tryz.ntmps262 Tryz.results262 rfl rfl (dP (dN rfl rfl (aH (dP (dM rfl rfl (lp (aN rfl) rfl (lp (po_fa0' fo_221_0 rfl) rfl (lp (aO rfl (bR k_87 (hB.ld hs hL 0 rfl))) rfl (dN rfl rfl (aH (aV ⟨_, fW rfl, ?_⟩)))))))))))
 exact ⟨rfl, hs⟩
end
def RowV (V : Vw) (b : Nat) (cs : List Value) : Prop := ∀ j u, cs[j]? = some u → V.cell b (0 + j) = some u
def PBody (V : Vw) (r : fY) (v : Value) : Prop :=
 match r.kind with
 | 1 => ∃ b, v = .iface 248 (.pointer (some ⟨b, 0, none⟩)) ∧ RowV V b ((padTo r.data 4).map eA)
 | 8 => ∃ b, v = .iface 262 (.pointer (some ⟨b, 0, none⟩)) ∧ RowV V b ((padTo r.data 16).map eA)
 | 2 => ∃ b, v = .iface 250 (.pointer (some ⟨b, 0, none⟩)) ∧ RowV V b (nmC (eN r.host) (eN r.host).length)
 | 3 => ∃ b, v = .iface 252 (.pointer (some ⟨b, 0, none⟩)) ∧ RowV V b (nmC (eN r.host) (eN r.host).length)
 | 5 => ∃ b, v = .iface 256 (.pointer (some ⟨b, 0, none⟩)) ∧ RowV V b (nmC (eN r.host) (eN r.host).length)
 | 6 => ∃ b, v = .iface 258 (.pointer (some ⟨b, 0, none⟩)) ∧ RowV V b (.int .u16 (r.n1 % 65536 : Nat) :: nmC (eN r.host) (eN r.host).length)
 | 9 => ∃ b, v = .iface 264 (.pointer (some ⟨b, 0, none⟩)) ∧ RowV V b (.int .u16 (r.n1 % 65536 : Nat) :: .int .u16 (r.n2 % 65536 : Nat) :: .int .u16 (r.n3 % 65536 : Nat) :: nmC (eN r.host) (eN r.host).length)
 | 4 => ∃ b, v = .iface 254 (.pointer (some ⟨b, 0, none⟩)) ∧ RowV V b (nmC (eN r.host) (eN r.host).length ++ (nmC (eN r.box) (eN r.box).length ++ [.int .u32 r.n1, .int .u32 r.n2, .int .u32 r.n3, .int .u32 r.n4, .int .u32 r.n5]))
 | 7 => ∃ b pv, v = .iface 260 (.pointer (some ⟨b, 0, none⟩)) ∧ RowV V b [pv] ∧ fF V pv r.texts
 | 10 => ∃ b pv, v = .iface 266 (.pointer (some ⟨b, 0, none⟩)) ∧ RowV V b [pv] ∧ eV V pv r.pairs
 | 11 => ∃ b pv, v = .iface 268 (.pointer (some ⟨b, 0, none⟩)) ∧ RowV V b (.int .u16 (r.n1 % 65536 : Nat) :: (nmC (eN r.host) (eN r.host).length ++ [pv])) ∧ eV V pv r.pairs
 | 12 => ∃ b pv, v = .iface 270 (.pointer (some ⟨b, 0, none⟩)) ∧ RowV V b (.int .u16 (r.n1 % 65536 : Nat) :: (nmC (eN r.host) (eN r.host).length ++ [pv])) ∧ eV V pv r.pairs
 | 13 => ∃ b pv, v = .iface 272 (.pointer (some ⟨b, 0, none⟩)) ∧ RowV V b [.int .u16 r.type, pv] ∧ RB V pv r.data
 | _ => v = .nilIface
structure Meths (A : Nat → Addr) (V : Vw) (r : fY) (T bb fr fp : Nat) : Prop where
 rm : ∀ (w : World) (fuel : Nat), (method (fuel + 1) T (.pointer (some ⟨bb, 0, none⟩)) "loop.example/pub-domainbytes/pub/dnsmessage.realType").run Tryz.prog w = .ok (fr, .pointer (some ⟨bb, 0, none⟩)) w
 rok : eF Tryz.prog fr = true
 rc : ∀ (w00 : World) (V0 : Vw) (w : World) (M : List (Nat × Obj)), St ⟨w00, V0, V⟩ w M → eC Tryz.prog fr #[.pointer (some ⟨bb, 0, none⟩)] w fun v w' => v = .int .u16 (eG r : Nat) ∧ St ⟨w00, V0, V⟩ w' M
 pm : ∀ (w : World) (fuel : Nat), (method (fuel + 1) T (.pointer (some ⟨bb, 0, none⟩)) "loop.example/pub-domainbytes/pub/dnsmessage.pack").run Tryz.prog w = .ok (fp, .pointer (some ⟨bb, 0, none⟩)) w
 pok : eF Tryz.prog fp = true
 pc : ∀ (w00 : World) (V0 : Vw) (w : World) (L : List (Nat × Obj)) (bm : Nat) (pre out : List UInt8) (t : List (List UInt8 × Nat)) (msg : Value), Sl 5 1 ⟨w00, V0, V⟩ w ((bm, eM t) :: L) msg (pre.length + out.length) ((pre ++ out).map eA) →
  pre.length + out.length ≤ 68719476736 → Keys t → eC Tryz.prog fp #[.pointer (some ⟨bb, 0, none⟩), msg, .map (some bm), .int .i64 (pre.length : Nat)] w (PackQ A w00 V0 V L bm pre (fT r ⟨out, t⟩))
theorem be2_mod (n : Nat) : be2 (n % 65536) = be2 n := by
 unfold be2
 have h1 : UInt8.ofNat (n % 65536 / 256) = UInt8.ofNat (n / 256) := UInt8.toNat_inj.1 (by simp; omega)
 have h2 : UInt8.ofNat (n % 65536) = UInt8.ofNat n := UInt8.toNat_inj.1 (by simp)
 rw [h1, h2]
theorem RowV.cells {V : Vw} {b : Nat} {cs : List Value} (h : RowV V b cs) {w00 : World} {V0 : Vw} {L : List (Nat × Obj)} : fG ⟨w00, V0, V⟩ L b 0 cs := fG.view h
section
variable {A : Nat → Addr} {V : Vw} {r : fY} {v : Value}
theorem PBody.meths (hG : Gl A V) (hf : FitR r) (h1 : 1 ≤ r.kind) (h13 : r.kind ≤ 13) (h : PBody V r v) : ∃ T bb fr fp, v = .iface T (.pointer (some ⟨bb, 0, none⟩)) ∧ Meths A V r T bb fr fp := by
 have hcases : r.kind = 1 ∨ r.kind = 2 ∨ r.kind = 3 ∨ r.kind = 4 ∨ r.kind = 5 ∨ r.kind = 6 ∨ r.kind = 7 ∨ r.kind = 8 ∨ r.kind = 9 ∨ r.kind = 10 ∨ r.kind = 11 ∨ r.kind = 12 ∨ r.kind = 13 := by omega
 unfold PBody at h
 rcases hcases with hk | hk | hk | hk | hk | hk | hk | hk | hk | hk | hk | hk | hk <;> rw [hk] at h <;> simp only at h
 obtain ⟨b, rfl, hB⟩ := h
 have hty : eG r = 1 := by unfold eG; rw [hk]; rfl
 refine ⟨248, b, 225, 224, rfl, ⟨fun w fuel => fC (by kernel_rfl) fuel _, by kernel_rfl, fun w00 V0 w M hs => ?_, fun w fuel => fC (by kernel_rfl) fuel _, by kernel_rfl, fun w00 V0 w L bm pre out t msg hs hm hkt => ?_⟩⟩
 rw [hty]; exact p_realA hs _
 unfold fT
 rw [hk]
 exact p_bodyA hG hs (by omega) hkt (padTo_len _ _) hB.cells
 obtain ⟨b, rfl, hB⟩ := h
 have hty : eG r = 2 := by unfold eG; rw [hk]; rfl
 refine ⟨250, b, 229, 228, rfl, ⟨fun w fuel => fC (by kernel_rfl) fuel _, by kernel_rfl, fun w00 V0 w M hs => ?_, fun w fuel => fC (by kernel_rfl) fuel _, by kernel_rfl, fun w00 V0 w L bm pre out t msg hs hm hkt => ?_⟩⟩
 rw [hty]; exact p_realNS hs _
 unfold fT
 rw [hk]
 exact p_bodyNS hG hs (by omega) hkt (eL _) hB.cells
 obtain ⟨b, rfl, hB⟩ := h
 have hty : eG r = 5 := by unfold eG; rw [hk]; rfl
 refine ⟨252, b, 232, 231, rfl, ⟨fun w fuel => fC (by kernel_rfl) fuel _, by kernel_rfl, fun w00 V0 w M hs => ?_, fun w fuel => fC (by kernel_rfl) fuel _, by kernel_rfl, fun w00 V0 w L bm pre out t msg hs hm hkt => ?_⟩⟩
 rw [hty]; exact p_realCNAME hs _
 unfold fT
 rw [hk]
 exact p_bodyCNAME hG hs (by omega) hkt (eL _) hB.cells
 obtain ⟨b, rfl, hB⟩ := h
 have hty : eG r = 6 := by unfold eG; rw [hk]; rfl
 refine ⟨254, b, 235, 234, rfl, ⟨fun w fuel => fC (by kernel_rfl) fuel _, by kernel_rfl, fun w00 V0 w M hs => ?_, fun w fuel => fC (by kernel_rfl) fuel _, by kernel_rfl, fun w00 V0 w L bm pre out t msg hs hm hkt => ?_⟩⟩
 rw [hty]; exact p_realSOA hs _
 unfold fT
 rw [hk]
 exact p_bodySOA hG hs (by omega) hkt (eL _) (eL _) hB.cells
 obtain ⟨b, rfl, hB⟩ := h
 have hty : eG r = 12 := by unfold eG; rw [hk]; rfl
 refine ⟨256, b, 238, 237, rfl, ⟨fun w fuel => fC (by kernel_rfl) fuel _, by kernel_rfl, fun w00 V0 w M hs => ?_, fun w fuel => fC (by kernel_rfl) fuel _, by kernel_rfl, fun w00 V0 w L bm pre out t msg hs hm hkt => ?_⟩⟩
 rw [hty]; exact p_realPTR hs _
 unfold fT
 rw [hk]
 exact p_bodyPTR hG hs (by omega) hkt (eL _) hB.cells
 obtain ⟨b, rfl, hB⟩ := h
 have hty : eG r = 15 := by unfold eG; rw [hk]; rfl
 refine ⟨258, b, 241, 240, rfl, ⟨fun w fuel => fC (by kernel_rfl) fuel _, by kernel_rfl, fun w00 V0 w M hs => ?_, fun w fuel => fC (by kernel_rfl) fuel _, by kernel_rfl, fun w00 V0 w L bm pre out t msg hs hm hkt => ?_⟩⟩
 rw [hty]; exact p_realMX hs _
 unfold fT
 rw [hk]
 have q := p_bodyMX hG hs (by omega) hkt (eL _) (Nat.mod_lt _ (by decide)) hB.cells
 rw [be2_mod] at q
 exact q
 obtain ⟨b, pv, rfl, hB, hT⟩ := h
 have hty : eG r = 16 := by unfold eG; rw [hk]; rfl
 refine ⟨260, b, 244, 243, rfl, ⟨fun w fuel => fC (by kernel_rfl) fuel _, by kernel_rfl, fun w00 V0 w M hs => ?_, fun w fuel => fC (by kernel_rfl) fuel _, by kernel_rfl, fun w00 V0 w L bm pre out t msg hs hm hkt => ?_⟩⟩
 rw [hty]; exact p_realTXT hs _
 unfold fT
 rw [hk]
 have q := p_bodyTXT hG hs (by omega) hkt hT hf.texts hf.text hB.cells
 have hno : (r.texts.any fun s => decide (255 < s.length)) = false := by
  rw [List.any_eq_false]
  intro s hs2
  have := hf.text s hs2
  simp
  omega
 simp only [hno]
 exact q
 obtain ⟨b, rfl, hB⟩ := h
 have hty : eG r = 28 := by unfold eG; rw [hk]; rfl
 refine ⟨262, b, 248, 247, rfl, ⟨fun w fuel => fC (by kernel_rfl) fuel _, by kernel_rfl, fun w00 V0 w M hs => ?_, fun w fuel => fC (by kernel_rfl) fuel _, by kernel_rfl, fun w00 V0 w L bm pre out t msg hs hm hkt => ?_⟩⟩
 rw [hty]; exact p_realAAAA hs _
 unfold fT
 rw [hk]
 exact p_bodyAAAA hG hs (by omega) hkt (padTo_len _ _) hB.cells
 obtain ⟨b, rfl, hB⟩ := h
 have hty : eG r = 33 := by unfold eG; rw [hk]; rfl
 refine ⟨264, b, 251, 250, rfl, ⟨fun w fuel => fC (by kernel_rfl) fuel _, by kernel_rfl, fun w00 V0 w M hs => ?_, fun w fuel => fC (by kernel_rfl) fuel _, by kernel_rfl, fun w00 V0 w L bm pre out t msg hs hm hkt => ?_⟩⟩
 rw [hty]; exact p_realSRV hs _
 unfold fT
 rw [hk]
 have q := p_bodySRV hG hs (by omega) hkt (eL _) (Nat.mod_lt _ (by decide)) (Nat.mod_lt _ (by decide)) (Nat.mod_lt _ (by decide)) hB.cells
 simp only [be2_mod] at q
 exact q
 obtain ⟨b, pv, rfl, hB, hP⟩ := h
 have hty : eG r = 41 := by unfold eG; rw [hk]; rfl
 refine ⟨266, b, 254, 253, rfl, ⟨fun w fuel => fC (by kernel_rfl) fuel _, by kernel_rfl, fun w00 V0 w M hs => ?_, fun w fuel => fC (by kernel_rfl) fuel _, by kernel_rfl, fun w00 V0 w L bm pre out t msg hs hm hkt => ?_⟩⟩
 rw [hty]; exact p_realOPT hs _
 unfold fT
 rw [hk]
 exact p_bodyOPT hG hs (by omega) hkt hP hf.pairs hf.pair hB.cells
 obtain ⟨b, pv, rfl, hB, hP⟩ := h
 have hty : eG r = 64 := by unfold eG; rw [hk]; rfl
 refine ⟨268, b, 257, 256, rfl, ⟨fun w fuel => fC (by kernel_rfl) fuel _, by kernel_rfl, fun w00 V0 w M hs => ?_, fun w fuel => fC (by kernel_rfl) fuel _, by kernel_rfl, fun w00 V0 w L bm pre out t msg hs hm hkt => ?_⟩⟩
 rw [hty]; exact p_realSVCB hs _
 unfold fT
 rw [hk]
 have q := p_bodySVCB hG hs (by omega) hkt (eL _) (Nat.mod_lt _ (by decide)) hP hf.pairs hf.pair hB.cells (off := (pre.length : Nat))
 rw [be2_mod] at q
 exact q
 obtain ⟨b, pv, rfl, hB, hP⟩ := h
 have hty : eG r = 65 := by unfold eG; rw [hk]; rfl
 refine ⟨270, b, 259, 256, rfl, ⟨fun w fuel => fC (by kernel_rfl) fuel _, by kernel_rfl, fun w00 V0 w M hs => ?_, fun w fuel => run_methodE (by kernel_rfl) fuel _, by kernel_rfl, fun w00 V0 w L bm pre out t msg hs hm hkt => ?_⟩⟩
 rw [hty]; exact p_realHTTPS hs _
 unfold fT
 rw [hk]
 have q := p_bodySVCB hG hs (by omega) hkt (eL _) (Nat.mod_lt _ (by decide)) hP hf.pairs hf.pair hB.cells (off := (pre.length : Nat))
 rw [be2_mod] at q
 exact q
 obtain ⟨b, pv, rfl, hB, hD⟩ := h
 have hty : eG r = r.type := by unfold eG; rw [hk]; rfl
 refine ⟨272, b, 262, 261, rfl, ⟨fun w fuel => fC (by kernel_rfl) fuel _, by kernel_rfl, fun w00 V0 w M hs => ?_, fun w fuel => fC (by kernel_rfl) fuel _, by kernel_rfl, fun w00 V0 w L bm pre out t msg hs hm hkt => ?_⟩⟩
 rw [hty]; exact p_realUnknown hs (fun x hx => hx) hB.cells
 unfold fT
 rw [hk]
 exact p_bodyUnknown hG hs (by omega) hkt hD (by have := hf.data; omega) hB.cells
end
end Go.Proofs.YtgpfjlfkaoffeaaGreatDoor

/- Packing: a message converted. Packing: a message packed. Where what is read of packed bytes ends: where it was packed to end. With one more counted at the bytes' end nothing is read. Sections that were packed, read: each ends where it was packed to end; one more counted at the bytes' end is refused. -/
import Derived.Test.YtgpfjlfkaoffeaaGreatDoorR23
import Derived.Test.YtgpfjlfkaoffeaaGreatDoorR18
import Derived.Test.YtgpfjlfkaoffeaaGreatDoorR06
import Derived.Test.YtgpfjlfkaoffeaaGreatDoorR13
set_option linter.all false
namespace Go.Proofs.YtgpfjlfkaoffeaaGreatDoor
open Go
theorem St.frameL {w0 w w1 : World} {V0 V V' : Vw} {L : List (Nat × Obj)} (h : St ⟨w0, V0, V⟩ w L) : ∀ {M : List (Nat × Obj)}, St ⟨w, V, V'⟩ w1 M → (∀ x ∈ M, w.heap.size ≤ x.1) → St ⟨w0, V0, V'⟩ w1 (M ++ L)
 | [], hc, _ => h.frame hc
 | (b, o) :: M, hc, hb => by
  have hb1 := hb _ (List.mem_cons_self ..)
  refine (h.frameL (hc.drop hb1) (fun x hx => hb x (List.mem_cons_of_mem _ hx))).add (hc.get (k := 0) rfl) (hc.unf _ (List.mem_cons_self ..)) (fun x hx e => ?_) (hc.off (k := 0) rfl)
  rcases List.mem_append.1 hx with hx | hx
  have := hc.nodup
  simp only [List.map_cons, List.nodup_cons] at this
  exact this.1 (e ▸ List.mem_map_of_mem hx)
  have := h.lt hx
  simp only at hb1; omega
theorem Sl.block {E : TypeId} {size n : Nat} {B : Base} {w : World} {L : List (Nat × Obj)} {v : Value} {xs : List Value} (h : Sl E size B w L v n xs) (hv : v ≠ .slice none 0 0) :
  ∃ g cap sp, v = .slice (some ⟨g, 0, none⟩) n cap ∧ B.heap.size ≤ g ∧ St B w ((g, .cells (xs ++ sp).toArray E (0, 0)) :: L) := by
 rcases h.2 with ⟨h1, _⟩ | ⟨g, cap, sp, h1, _, _, _, h2, h3⟩
 exact absurd h1 hv
 exact ⟨g, cap, sp, h1, h2, h3⟩
structure RecOk (r : fY) : Prop where
 mid : Mid r
 fit : FitR r
 k1 : 1 ≤ r.kind
 k13 : r.kind ≤ 13
 type : eG r < 65536
 cls : r.cls < 65536
 length : r.length < 65536
theorem Sec.of {V : Vw} {l : List fY} {xs sp : List Value} (h : Rows 261 (ResR V) l xs) (hf : ∀ r ∈ l, RecOk r) : Sec V (xs ++ sp) l := by
 refine ⟨by rw [List.length_append, h.len]; omega, fun i hi => ?_, fun r hr => ?_⟩
 obtain ⟨c, ⟨bv, rfl, hB⟩, hcl, hct⟩ := h.at (List.getElem?_eq_getElem hi)
 refine ⟨bv, fun j u hu => ?_, hB⟩
 have h1 := fN hct hu
 have h2 : i * 261 + j < xs.length := by
  rcases Nat.lt_or_ge (i * 261 + j) xs.length with h | h
  exact h
  rw [List.getElem?_eq_none h] at h1; cases h1
 rw [List.getElem?_append_left h2]; exact h1
 have h := hf r hr
 exact ⟨h.fit, h.k1, h.k13, h.type, h.cls, h.length⟩
theorem Sec.mono {V V' : Vw} (hV : V.le V') {l : List fY} {rs : List Value} (h : Sec V rs l) : Sec V' rs l := by
 refine ⟨h.len, fun i hi => ?_, h.fit⟩
 obtain ⟨bv, h1, h2⟩ := h.row i hi
 have hk := (h.fit _ (List.getElem_mem hi)).2
 exact ⟨bv, h1, h2.mono hV hk.1 hk.2.1⟩
structure MOk (m : PMess) : Prop where
 nq : m.asks.length ≤ 65535
 na : m.answers.length ≤ 65535
 nu : m.authorities.length ≤ 65535
 nd : m.additionals.length ≤ 65535
 ask : ∀ a ∈ m.asks, a.name.length ≤ 4294967296 ∧ a.type < 65536 ∧ a.cls < 65536
 ans : ∀ r ∈ m.answers, RecOk r
 aut : ∀ r ∈ m.authorities, RecOk r
 add : ∀ r ∈ m.additionals, RecOk r
 id : m.head.id < 65536
 op : m.head.op < 16
 code : m.head.code < 16
def msgV (m : PMess) (bq cq ba ca bu cu bd cd : Nat) : List Value :=
 fJ m.head ++ [.slice (some ⟨bq, 0, none⟩) m.asks.length cq, .slice (some ⟨ba, 0, none⟩) m.answers.length ca, .slice (some ⟨bu, 0, none⟩) m.authorities.length cu, .slice (some ⟨bd, 0, none⟩) m.additionals.length cd]
theorem askV_len (a : PAsk) : (askV a).length = 258 := by simp [askV, cM (eL a.name)]
theorem RRecs.form {V : Vw} {v : Value} {l : List fY} (h : RRecs V v l) : ∃ a c, v = .slice a l.length c := by
 obtain ⟨xs, hS, _⟩ := h
 obtain ⟨a, c, h1, _⟩ := hS.form
 exact ⟨a, c, h1⟩
theorem perm5 (x y z u v : Nat × Obj) : List.Perm [x, y, z, u, v] [u, v, x, y, z] := by
 have := List.perm_append_comm (l₁ := [x, y, z]) (l₂ := [u, v])
 simpa using this
section
variable {A : Nat → Addr} {V : Vw} {w0 : World} {m : PMess} {va v1 v2 v3 : Value}
set_option maxHeartbeats 8000000 in
theorem p_messageOf (hV : V.In w0) (hQ : RAsks V va m.asks) (hA : RRecs V v1 m.answers) (hU : RRecs V v2 m.authorities) (hD : RRecs V v3 m.additionals) (hm : MOk m) :
  eC Tryz.prog 14 #[.agg (fJ m.head ++ [va, v1, v2, v3]).toArray] w0 fun v w' => ∃ (V' : Vw) (bq cq ba ca bu cu bd cd : Nat) (rsA rsU rsD : List Value),
   v = .agg (msgV m bq cq ba ca bu cu bd cd).toArray ∧ (∀ i (h : i < m.asks.length), ∀ j u, (askV m.asks[i])[j]? = some u → V'.cell bq (i * 258 + j) = some u) ∧ Sec V' rsA m.answers ∧ Sec V' rsU m.authorities ∧ Sec V' rsD m.additionals ∧
   w0.heap.size ≤ ba ∧ w0.heap.size ≤ bu ∧ w0.heap.size ≤ bd ∧
   St ⟨w0, V, V'⟩ w' [(bd, .cells rsD.toArray 116 (0, 0)), (bu, .cells rsU.toArray 116 (0, 0)), (ba, .cells rsA.toArray 116 (0, 0))] := by
 have hnq := hm.nq
 have hna := hm.na
 have hnu := hm.nu
 have hnd := hm.nd
 obtain ⟨a1, c1, rfl⟩ := hA.form
 obtain ⟨a2, c2, rfl⟩ := hU.form
 obtain ⟨a3, c3, rfl⟩ := hD.form
 obtain ⟨xs, hS, hR⟩ := hQ
 obtain ⟨a, cap, rfl, hcap, ha⟩ := hS.form
 have hs := St.start hV
 refine aT [_] Tryz.func14 Tryz.ntmps14 Tryz.results14 rfl rfl (dP (aJ (cR hs rfl rfl rfl (fun b1 w hb1 hbe1 hs => aJ (aX hs z_54 rfl (fun b2 w hb2 he2 hs => ?_))))))
 replace hs : St ⟨w0, V, V⟩ _ [(b2, .cells (fJ {} ++ [Value.slice none 0 0, .slice none 0 0, .slice none 0 0, .slice none 0 0]).toArray 54 (0, 0)), (b1, .cells (fJ m.head ++ [Value.slice a m.asks.length cap, .slice a1 m.answers.length c1, .slice a2 m.authorities.length c2, .slice a3 m.additionals.length c3]).toArray 36 (0, 0))] := hs
 refine aH (dP (aJ (fP es_51 hs rfl (fun b6 w hb6 he6 hs => ?_))))
 have hsl := Sl.empty (size := 258) hs hb6
 refine dN rfl rfl (aH (aF (dP (lp (aR fo_36_1 rfl) rfl (lp (aO rfl (cT (a := fJ m.head) (i := 0) k_34 (hs.g 2 rfl) rfl rfl rfl)) rfl (lp (bC Tryz.underlying34 rfl) rfl (dM rfl rfl (aH (bQ (dC (fun g : Nat × List Value × Value => eH (eH (eH (eH (eH (eH emp 10 (.int .i64 g.1)) 9 (.int .i64 m.asks.length)) 8 (.slice a m.asks.length cap)) 3 g.2.2) 2 (.pointer (some ⟨b2, 0, none⟩))) 1 (.pointer (some ⟨b1, 0, none⟩))) (fun g w' => Sl 90 258 ⟨w0, V, V⟩ w' [(b2, .cells (fJ {} ++ [Value.slice none 0 0, .slice none 0 0, .slice none 0 0, .slice none 0 0]).toArray 54 (0, 0)), (b1, .cells (fJ m.head ++ [Value.slice a m.asks.length cap, .slice a1 m.answers.length c1, .slice a2 m.authorities.length c2, .slice a3 m.additionals.length c3]).toArray 36 (0, 0))] g.2.2 g.1 g.2.1 ∧ Rows 258 (fun x c => c = askV x) (m.asks.take g.1) g.2.1 ∧ g.1 ≤ m.asks.length ∧ g.2.2 ≠ .slice none 0 0) (fun g => m.asks.length - g.1) (0, [], .slice (some ⟨b6, 0, none⟩) 0 0) (aL rfl (aL rfl (aL rfl (aL rfl (aL rfl (aL rfl (bG _))))))) ⟨hsl, rfl, Nat.zero_le _, fun e => by cases e⟩ ?_))))))))))
 clear hsl hs
 rintro ⟨j, ys, sv⟩ w ⟨hsl, hrows, hj, hsv0⟩
 simp only at hsl hrows hj hsv0 ⊢
 refine dP (lp (cY rfl rfl) rfl (aH (aF (bH rfl (fun hc0 => ?_) (fun hc0 => ?_)))))
 obtain ⟨b, p, rfl, hca⟩ := ha (by omega)
 have hjl : j < m.asks.length := by omega
 obtain ⟨c, rfl, hcl, hct⟩ := hR.at (List.getElem?_eq_getElem hjl)
 obtain ⟨hnm, _, _⟩ := hm.ask _ (List.getElem_mem hjl)
 obtain ⟨X, hX, hs⟩ := hsl.open
 refine aW (aF (bQ (dP (lp (eZ j (p + j * 3) es_34 rfl rfl rfl hjl rfl) rfl ?_))))
 refine lp (aO rfl (ld_cells (l := askC m.asks[j]) k_77 rfl (fun i u hu => by
  rw [Nat.add_assoc]
  exact Vw.cell_in hs.isIn (hca _ _ (fN hct hu))))) rfl ?_
 refine aJ (aX hs z_77 rfl (fun b5 w hb5 he5 hs => aJ (dR 0 hs k_77 rfl rfl rfl rfl rfl (aG rfl) rfl (fun w hs => aH (aB (dM rfl rfl (lp (aO rfl (aP k_77 (hs.g 0 rfl) rfl)) rfl (aZ ok_31 rfl rfl (p_questionOf hs.isIn m.asks[j] hnm) rfl (fun v16 w HF => ?_)))))))))
 obtain ⟨rfl, hc⟩ := HF
 replace hs := hs.frame hc
 refine aJ (o_bslice (vls := [askV m.asks[j]]) el_51 hs rfl rfl rfl rfl (by intro q hq; simp at hq; subst hq; exact askV_len _) (by decide) (by decide) rfl (fun b17 w hb17 he17 hs => ?_))
 rw [show [askV m.asks[j]].flatten = askV m.asks[j] by simp] at hs
 refine aJ (fA (k := 1) (news := askV m.asks[j]) el_51 (.inr ⟨_, Tryz.underlying51⟩) (SlX.close (L := [_, _, _, _]) hX hs) rfl rfl (src_own (k := 0) hs rfl (askV_len _)) (fD (eU _ _) (aG rfl)) (by omega) (by omega) rfl (fun v18 w hs => ?_))
 replace hs := (hs.drop hb17).drop hb5
 refine dN rfl rfl (aH (aB (lp (bN rfl rfl (fV (c := j + 1) (by omega) (by omega))) rfl (dM rfl rfl (aH ?_)))))
 exact ⟨(j + 1, _, v18), aL rfl (aL rfl (aL rfl (aL rfl (aL rfl (aL rfl (bG _)))))), ⟨hs, by
  show Rows 258 _ (m.asks.take (j + 1)) _
  rw [List.take_add_one, List.getElem?_eq_getElem hjl]
  exact Rows.snoc hrows rfl (askV_len _), by simp only; omega, hs.notNil (by omega)⟩, by simp only; omega⟩
 refine eT (aF ?_)
 have hjn : j = m.asks.length := by omega
 subst hjn
 rw [List.take_length] at hrows
 obtain ⟨bq, cq, spq, rfl, hbq, hs⟩ := hsl.block hsv0
 obtain ⟨V1, hle1, hvq, hs⟩ := St.give hs hbq
 refine e_draw (fun w2 => w2.heap[b1]? = some (.cells (fJ m.head ++ [Value.slice a m.asks.length cap, .slice a1 m.answers.length c1, .slice a2 m.authorities.length c2, .slice a3 m.additionals.length c3]).toArray 36 (0, 0))) [1, 5, 8, 11] mixed (fun w hw => ?_)
 replace hs := hw.st hs
 refine dI 0 rfl (fun w => aR fo_36_0 rfl) rfl rfl (dJ 1 rfl (hs.g 1 rfl) rfl (fun w hf => (aO rfl (ld_hd (a := fJ m.head) bZ hf rfl))) rfl (dI 3 rfl (fun w => aC rfl) rfl rfl (dI 4 rfl (fun w => aR fo_36_2 rfl) rfl rfl (dJ 5 rfl (hs.g 1 rfl) rfl (fun w hf => (aO rfl (cT (a := fJ m.head) k_31 hf rfl (i := 1) rfl rfl))) rfl (dI 7 rfl (fun w => aR fo_36_3 rfl) rfl rfl (dJ 8 rfl (hs.g 1 rfl) rfl (fun w hf => (aO rfl (cT (a := fJ m.head) k_31 hf rfl (i := 2) rfl rfl))) rfl (dI 10 rfl (fun w => aR fo_36_4 rfl) rfl rfl (dJ 11 rfl (hs.g 1 rfl) rfl (fun w hf => (aO rfl (cT (a := fJ m.head) k_31 hf rfl (i := 3) rfl rfl))) rfl (dL 2 rfl (cF (cD rfl rfl ok_32 (p_headerOf hs.isIn m.head)) rfl (fun v22 w HF => ?_)))))))))))
 obtain ⟨rfl, hc⟩ := HF
 replace hs := hs.frame hc
 refine ⟨fun _ => hs.g 1 rfl, dL 6 rfl (cF (cD rfl rfl ok_33 (p_resourcesOf hs.isIn (hA.mono (Vw.le_trans hle1 V1.le_refl)) (by omega) (fun r hr => ⟨(hm.ans r hr).mid, (hm.ans r hr).k1, (hm.ans r hr).k13⟩))) rfl (fun v26 w HF => ?_))⟩
 obtain ⟨V2, xsA, hn26, hslA, hrA⟩ := HF
 have hleA := hslA.st.view
 obtain ⟨ba, ca, spA, rfl, hba, hcA⟩ := hslA.block hn26
 have hba' := Nat.le_trans hs.size hba
 replace hs := hs.frameL hcA (fun x hx => by simp at hx; subst hx; exact hba)
 refine ⟨fun _ => hs.g 2 rfl, dL 9 rfl (cF (cD rfl rfl ok_33 (p_resourcesOf hs.isIn (hU.mono (Vw.le_trans hle1 hleA)) (by omega) (fun r hr => ⟨(hm.aut r hr).mid, (hm.aut r hr).k1, (hm.aut r hr).k13⟩))) rfl (fun v29 w HF => ?_))⟩
 obtain ⟨V3, xsU, hn29, hslU, hrU⟩ := HF
 have hleU := hslU.st.view
 obtain ⟨bu, cu, spU, rfl, hbu, hcU⟩ := hslU.block hn29
 have hbu' := Nat.le_trans hs.size hbu
 replace hs := hs.frameL hcU (fun x hx => by simp at hx; subst hx; exact hbu)
 refine ⟨fun _ => hs.g 3 rfl, dL 12 rfl (cF (cD rfl rfl ok_33 (p_resourcesOf hs.isIn (hD.mono (Vw.le_trans hle1 (Vw.le_trans hleA hleU))) (by omega) (fun r hr => ⟨(hm.add r hr).mid, (hm.add r hr).k1, (hm.add r hr).k13⟩))) rfl (fun v32 w HF => ?_))⟩
 obtain ⟨V4, xsD, hn32, hslD, hrD⟩ := HF
 have hleD := hslD.st.view
 obtain ⟨bd, cd, spD, rfl, hbd, hcD⟩ := hslD.block hn32
 have hbd' := Nat.le_trans hs.size hbd
 replace hs := hs.frameL hcD (fun x hx => by simp at hx; subst hx; exact hbd)
 refine ⟨fun _ => hs.g 4 rfl, dI 13 rfl (fun w => (fO [fJ m.head, [.slice (some ⟨bq, 0, none⟩) m.asks.length cq], [.slice (some ⟨ba, 0, none⟩) m.answers.length ca], [.slice (some ⟨bu, 0, none⟩) m.authorities.length cu], [.slice (some ⟨bd, 0, none⟩) m.additionals.length cd]] st_54 rfl rfl rfl rfl rfl)) rfl rfl (dL 14 rfl (dR 3 hs k_54 rfl rfl rfl rfl rfl (aG rfl) rfl (fun w hs => ⟨fun h => absurd h (by decide +kernel), bS (by decide +kernel) (aV ⟨_, fW ⟨_, rfl, aP k_54 (hs.g 3 rfl) rfl⟩, ⟨V4, bq, cq, ba, ca, bu, cu, bd, cd, xsA ++ spA, xsU ++ spU, xsD ++ spD, rfl, fun i hi j u hu => ?_, ((Sec.of hrA hm.ans).mono hleU).mono hleD, (Sec.of hrU hm.aut).mono hleD, Sec.of hrD hm.add, hba', hbu', hbd', ?_⟩⟩)⟩)))⟩
 obtain ⟨c, rfl, hcl, hct⟩ := hrows.at (List.getElem?_eq_getElem hi)
 have h1 := fN hct hu
 have h2 : i * 258 + j < ys.length := by
  rcases Nat.lt_or_ge (i * 258 + j) ys.length with h | h
  exact h
  rw [List.getElem?_eq_none h] at h1; cases h1
 refine Vw.cell_le (Vw.le_trans hleA (Vw.le_trans hleU hleD)) (Vw.cell_of hvq ?_)
 rw [List.getElem?_append_left h2]; exact h1
 exact (hs.perm (M := (b2, _) :: (b1, _) :: [_, _, _]) (perm5 ..)).drop hb2 |>.drop hb1
end
end Go.Proofs.YtgpfjlfkaoffeaaGreatDoor
namespace Go.Proofs.YtgpfjlfkaoffeaaGreatDoor
open Go
section
variable {A : Nat → Addr} {V V0 : Vw} {w w00 : World} {L : List (Nat × Obj)} {bx bq ba bu bd ca cu cd cq : Nat} {m : PMess} {rsA rsU rsD : List Value} {E : TypeId}
set_option maxHeartbeats 2000000 in
theorem p_MPack (hG : Gl A V) (hs : St ⟨w00, V0, V⟩ w ((ba, .cells rsA.toArray E (0, 0)) :: (bu, .cells rsU.toArray E (0, 0)) :: (bd, .cells rsD.toArray E (0, 0)) :: L)) 
  (hMsg : fG ⟨w00, V0, V⟩ L bx 0 (msgV m bq cq ba ca bu cu bd cd))
  (hQ : ∀ i (h : i < m.asks.length), fG ⟨w00, V0, V⟩ L bq (i * 258) (askV m.asks[i]))
  (hA : Sec V rsA m.answers) (hU : Sec V rsU m.authorities) (hD : Sec V rsD m.additionals) (hm : MOk m) :
  eC Tryz.prog 15 #[.pointer (some ⟨bx, 0, none⟩)] w fun v w' => ∃ (mv e : Value) (k : EK) (rsA' rsU' rsD' : List Value), v = .tuple #[mv, e] ∧ ErrV A e k ∧
   ((∃ o, k = .ok ∧ packM m = some o ∧ Sl 5 1 ⟨w00, V0, V⟩ w' ((ba, .cells rsA'.toArray E (0, 0)) :: (bu, .cells rsU'.toArray E (0, 0)) :: (bd, .cells rsD'.toArray E (0, 0)) :: L) mv o.length (o.map eA)) ∨
    (k = .other ∧ packM m = none ∧ St ⟨w00, V0, V⟩ w' ((ba, .cells rsA'.toArray E (0, 0)) :: (bu, .cells rsU'.toArray E (0, 0)) :: (bd, .cells rsD'.toArray E (0, 0)) :: L))) := by
 refine aT [_] Tryz.func15 Tryz.ntmps15 Tryz.results15 rfl rfl (dP (dN rfl rfl (dN rfl rfl (aH (dP (dM rfl rfl (aJ (o_make (c := 512) (l := 0) el_23 hs rfl rfl rfl rfl (by decide) (by decide) (by decide) rfl (fun b5 w hb5 he5 hs => ?_)))))))))
 rw [made_one] at hs
 have hsl : Sl 5 1 ⟨w00, V0, V⟩ w ((ba, .cells rsA.toArray E (0, 0)) :: (bu, .cells rsU.toArray E (0, 0)) :: (bd, .cells rsD.toArray E (0, 0)) :: L) (.slice (some ⟨b5, 0, none⟩) ([] : List UInt8).length 512) ([] : List UInt8).length (([] : List UInt8).map eA) := ⟨rfl, .inr ⟨b5, 512, _, rfl, (by rw [List.map_nil, List.nil_append, List.length_cons, List.length_replicate]), Nat.zero_le _, by decide, hb5, hs⟩⟩
 refine aZ ok_34 rfl rfl (p_appendPack hG hsl (by simp) hMsg (fun i hi => ⟨hQ i hi, (hm.ask _ (List.getElem_mem hi)).2⟩) hA hU hD hm.nq hm.na hm.nu hm.nd hm.id hm.op hm.code) rfl (fun v6 w HF => ?_)
 obtain ⟨mv, e, k, rA, rU, rD, rfl, he, hr⟩ := HF
 refine dO rfl rfl rfl (dO rfl rfl rfl (dN rfl rfl (dN rfl rfl (aH (aV ⟨_, fX rfl rfl, ⟨mv, e, k, rA, rU, rD, rfl, he, ?_⟩⟩)))))
 rcases hr with ⟨o, h1, h2, h3⟩ | h3
 exact .inl ⟨o, h1, h2, by simpa using h3⟩
 exact .inr h3
end
section
variable {A : Nat → Addr} {V : Vw} {w0 : World} {m : PMess} {va v1 v2 v3 : Value}
set_option maxHeartbeats 4000000 in
theorem p_Pack (hG : Gl A V) (hV : V.In w0) (hQ : RAsks V va m.asks) (hA : RRecs V v1 m.answers) (hU : RRecs V v2 m.authorities) (hD : RRecs V v3 m.additionals) (hm : MOk m) :
  eC Tryz.prog 6 #[.agg (fJ m.head ++ [va, v1, v2, v3]).toArray] w0 fun v w' => ∃ (V' : Vw) (x : Value) (ok : Bool) (o : List UInt8), v = .tuple #[x, .bool ok] ∧ St ⟨w0, V, V'⟩ w' [] ∧ RB V' x o ∧
   ((ok = true ∧ packM m = some o) ∨ (ok = false ∧ o = [] ∧ packM m = none)) := by
 obtain ⟨a1, c1, rfl⟩ := hA.form
 obtain ⟨a2, c2, rfl⟩ := hU.form
 obtain ⟨a3, c3, rfl⟩ := hD.form
 obtain ⟨a, cap, rfl⟩ : ∃ a c, va = .slice a m.asks.length c := by
  obtain ⟨xs, hS, _⟩ := hQ
  obtain ⟨a, c, h1, _⟩ := hS.form
  exact ⟨a, c, h1⟩
 have hs := St.start hV
 refine aT [_] Tryz.func6 Tryz.ntmps6 Tryz.results6 rfl rfl (dP (aJ (cR hs rfl rfl rfl (fun b1 w hb1 hbe1 hs => dN rfl rfl (dN rfl rfl (aH (dP (lp (aO rfl (aP k_36 (hs.g 0 rfl) rfl)) rfl (aZ ok_14 rfl rfl (p_messageOf hs.isIn hQ hA hU hD hm) rfl (fun v8 w HF => ?_))))))))))
 obtain ⟨V1, bq, cq, ba, ca, bu, cu, bd, cd, rsA, rsU, rsD, rfl, hcq, hsA, hsU, hsD, hba, hbu, hbd, hc⟩ := HF
 have hbA := Nat.le_trans hs.size hba
 have hbU := Nat.le_trans hs.size hbu
 have hbD := Nat.le_trans hs.size hbd
 have hle1 := hc.view
 replace hs := hs.frameL hc (fun x hx => by simp at hx; rcases hx with rfl | rfl | rfl <;> assumption)
 refine aJ (aX hs z_54 rfl (fun b4 w hb4 he4 hs => aJ (dR 0 hs k_54 rfl rfl rfl rfl rfl (aG rfl) rfl (fun w hs => ?_))))
 obtain ⟨V2, hle2, hv4, hs⟩ := St.give hs hb4
 refine aH (dP (aZ ok_15 rfl rfl (p_MPack (hG.mono hs.view) (hs.perm perm3) (fG.view (fun j u hu => by rw [Nat.zero_add]; exact Vw.cell_of hv4 hu)) (fun i hi => fG.view (fun j u hu => Vw.cell_le hle2 (hcq i hi j u hu))) (hsA.mono hle2) (hsU.mono hle2) (hsD.mono hle2) hm) rfl (fun v10 w HF => ?_)))
 obtain ⟨mv, e, k, rA, rU, rD, rfl, he, hr⟩ := HF
 refine dM rfl rfl (dO rfl rfl rfl (dO rfl rfl rfl (dN rfl rfl (dN rfl rfl (aH (aF (dP (dM rfl rfl (lp (bB he rfl) rfl (aH (bH rfl (fun hc0 => ?_) (fun hc0 => ?_))))))))))))
 obtain ⟨_, hno, hs⟩ := hr.resolve_left (fun ⟨_, h, _⟩ => hc0 h)
 refine dP (aJ (fP es_23 hs rfl (fun b15 w hb15 he15 hs => dN rfl rfl (dN rfl rfl (aH (aV ⟨_, fX rfl rfl, ?_⟩))))))
 exact ⟨V2, _, false, [], rfl, ((((hs.drop hb15).drop hbA).drop hbU).drop hbD).drop hb1, ⟨rfl, .inr ⟨b15, 0, 0, rfl, Nat.le_refl _, fun j u hu => by simp at hu⟩⟩, .inr ⟨rfl, rfl, hno⟩⟩
 obtain ⟨o, _, hsome, hs⟩ := hr.resolve_right (fun h => hc0 (by rw [h.1]; decide))
 refine aW (dP (dM rfl rfl (dN rfl rfl (dN rfl rfl (aH (aV ⟨_, fX rfl rfl, ?_⟩))))))
 obtain ⟨V3, hle3, hsv, hs⟩ := hs.give
 exact ⟨V3, mv, true, o, rfl, (((hs.drop hbA).drop hbU).drop hbD).drop hb1, hsv, .inl ⟨rfl, hsome⟩⟩
end
end Go.Proofs.YtgpfjlfkaoffeaaGreatDoor
namespace Go.Proofs.YtgpfjlfkaoffeaaGreatDoor
open Go
def Pl (t : List (List UInt8 × Nat)) : Prop := ∀ e ∈ t, e.2 < 16384
def On (b : List UInt8) (i : Nat) (o : List UInt8) : Prop := o.length ≤ b.length ∧ ∀ j, i ≤ j → j < o.length → eB b j = eB o j
theorem byteAt_at (a : List UInt8) (x : UInt8) (c : List UInt8) : eB (a ++ x :: c) a.length = x.toNat := by simp [eB]
theorem On.pre {b o x : List UInt8} {i : Nat} (h : On b i (o ++ x)) : On b i o :=
  ⟨by have := h.1; rw [List.length_append] at this; omega, fun j h1 h2 => by rw [h.2 j h1 (by rw [List.length_append]; omega), byteAt_app _ h2]⟩
theorem On.from {b o : List UInt8} {i k : Nat} (h : On b i o) (hk : i ≤ k) : On b k o := ⟨h.1, fun j h1 h2 => h.2 j (by omega) h2⟩
theorem nameS_j {b : List UInt8} {i : Nat} {out : List UInt8} {jumps e : Nat} {o : List UInt8} {e' : Nat} (h : fS b i out jumps e = some (o, e')) (hj : 0 < jumps) : e' = e := by
  fun_induction fS b i out jumps e with
  | case1 i out jumps e hi h0 h1 => cases h
  | case2 i out jumps e hi h0 h1 =>
    simp only [Option.some.injEq, Prod.mk.injEq] at h
    rw [if_neg (by omega)] at h
    exact h.2.symm
  | case4 i out jumps e hi h0 hc hl hd ih => exact ih h hj
  | case6 i out jumps e hi h0 hc hc2 hl hj2 ih =>
    have := ih h (by omega)
    split at this
    · omega
    · exact this
  | _ => cases h
theorem nameGo_ext {short : Bool} {f : Nat} {s : List UInt8} {w w2 : Ink} (h : nameGo short f s w = some w2) : ∃ x, w2.out = w.out ++ x := by
  have h2 := nameGo_sim short f s w.out w.out w.tbl rfl
  rcases h2 with ⟨h1, _⟩ | ⟨x, t, h1, _⟩
  · rw [show (⟨w.out, w.tbl⟩ : Ink) = w from rfl, h] at h1; cases h1
  · rw [show (⟨w.out, w.tbl⟩ : Ink) = w from rfl, h] at h1; cases h1; exact ⟨x, rfl⟩
theorem nameP_ext {short : Bool} {s : List UInt8} {w w2 : Ink} (h : nameP short s w = some w2) : ∃ x, w2.out = w.out ++ x := by
  have h2 := nameP_sim short s w.tbl (o1 := w.out) (o2 := w.out) rfl
  rcases h2 with ⟨h1, _⟩ | ⟨x, t, h1, _⟩
  · rw [show (⟨w.out, w.tbl⟩ : Ink) = w from rfl, h] at h1; cases h1
  · rw [show (⟨w.out, w.tbl⟩ : Ink) = w from rfl, h] at h1; cases h1; exact ⟨x, rfl⟩
theorem bodyP_ext {r : fY} {w w2 : Ink} (h : fT r w = some w2) : ∃ x, w2.out = w.out ++ x := by
  have h2 := bodyP_sim r w.tbl (o1 := w.out) (o2 := w.out) rfl
  rcases h2 with ⟨h1, _⟩ | ⟨x, t, h1, _⟩
  · rw [show (⟨w.out, w.tbl⟩ : Ink) = w from rfl, h] at h1; cases h1
  · rw [show (⟨w.out, w.tbl⟩ : Ink) = w from rfl, h] at h1; cases h1; exact ⟨x, rfl⟩
theorem Pl.at {t : List (List UInt8 × Nat)} (h : Pl t) {s : List UInt8} {p : Nat} (hp : tblAt t s = some p) : p < 16384 := by
  unfold tblAt at hp
  obtain ⟨e, h1, rfl⟩ := Option.map_eq_some_iff.1 hp
  exact h e (List.mem_of_find?_eq_some h1)
theorem Pl.put {t : List (List UInt8 × Nat)} (h : Pl t) {short : Bool} {s : List UInt8} {n : Nat} : Pl (if short ∧ n < 16384 then t ++ [(s, n)] else t) := by
  split
  · rename_i hc
    intro e he
    rcases List.mem_append.1 he with he | he
    · exact h e he
    · simp at he; subst he; exact hc.2
  · exact h
theorem nameGo_bd (short : Bool) : ∀ (f : Nat) (s : List UInt8) (w w2 : Ink), Pl w.tbl → nameGo short f s w = some w2 → Pl w2.tbl
  | 0, _, _, _, _, h => by cases h
  | f + 1, s, w, w2, hb, h => by
    unfold nameGo at h
    split at h
    · cases h; exact hb
    · split at h
      · cases h; exact hb
      · split at h
        · cases h
        · exact nameGo_bd short f _ _ _ (by exact hb.put) h
theorem nameP_bd {short : Bool} {s : List UInt8} {w w2 : Ink} (hb : Pl w.tbl) (h : nameP short s w = some w2) : Pl w2.tbl := by
  unfold nameP at h
  split at h
  · cases h
  · split at h
    · cases h; exact hb
    · exact nameGo_bd _ _ _ _ _ hb h
theorem bodyP_bd {r : fY} {w w2 : Ink} (hb : Pl w.tbl) (h : fT r w = some w2) : Pl w2.tbl := by
  unfold fT at h
  split at h
  · cases h; exact hb
  · cases h; exact hb
  · exact nameP_bd hb h
  · exact nameP_bd hb h
  · exact nameP_bd hb h
  · exact nameP_bd (w := w.put _) hb h
  · exact nameP_bd (w := ((w.put _).put _).put _) hb h
  · obtain ⟨w3, h1, rfl⟩ := Option.map_eq_some_iff.1 h
    obtain ⟨w4, h2, h3⟩ := Option.bind_eq_some_iff.1 h1
    exact show Pl w3.tbl from nameP_bd (nameP_bd hb h2) h3
  · split at h
    · cases h
    · cases h; exact hb
  · cases h; exact hb
  · obtain ⟨w4, h2, h3⟩ := Option.bind_eq_some_iff.1 h
    split at h3
    · cases h3
    · cases h3; exact show Pl w4.tbl from nameP_bd (w := w.put _) hb h2
  · obtain ⟨w4, h2, h3⟩ := Option.bind_eq_some_iff.1 h
    split at h3
    · cases h3
    · cases h3; exact show Pl w4.tbl from nameP_bd (w := w.put _) hb h2
  · cases h; exact hb
  · cases h
theorem nameGo_end (short : Bool) : ∀ (f : Nat) (s : List UInt8) (w w2 : Ink), Pl w.tbl → nameGo short f s w = some w2 → ∀ (b acc o : List UInt8) (e e' : Nat), On b w.out.length w2.out → fS b w.out.length acc 0 e = some (o, e') → e' = w2.out.length
  | 0, _, _, _, _, h => by cases h
  | f + 1, s, w, w2, ht, h => by
    intro b acc o e e' hb hn
    unfold nameGo at h
    split at h
    · cases h
      have h0 : eB b w.out.length = 0 := by
        rw [hb.2 _ (Nat.le_refl _) (by simp [Ink.put])]
        exact byteAt_at w.out 0 []
      have hl : w.out.length < b.length := by have := hb.1; simp [Ink.put] at this; omega
      rw [fS, dif_pos hl, if_pos h0] at hn
      split at hn
      · cases hn
      · simp at hn; rw [← hn.2]; simp [Ink.put]
    · split at h
      · rename_i p hp
        have hsh : short = true := by cases short <;> simp_all
        subst hsh
        rw [if_pos rfl] at hp
        have hp2 := ht.at hp
        cases h
        have h0 : eB b w.out.length = 192 + p / 256 := by
          rw [hb.2 _ (Nat.le_refl _) (by simp [Ink.put, be2])]
          show eB (w.out ++ UInt8.ofNat ((49152 + p) / 256) :: _) _ = _
          rw [byteAt_at, UInt8.toNat_ofNat']
          omega
        have hl : w.out.length + 2 ≤ b.length := by have := hb.1; simp [Ink.put, be2] at this; omega
        rw [fS, dif_pos (by omega), if_neg (by omega), dif_neg (by omega), if_pos (by omega), if_pos (by omega), dif_pos (by omega)] at hn
        have := nameS_j hn (by omega)
        rw [this, if_pos rfl]
        simp [Ink.put, be2]
      · split at h
        · cases h
        · rename_i hs _ _ hne
          obtain ⟨x, hx⟩ := nameGo_ext h
          simp only at hx
          have h0 : eB b w.out.length = (eO s).length := by
            rw [hb.2 _ (Nat.le_refl _) (by rw [hx]; simp), hx]
            rw [show (w.out ++ UInt8.ofNat (eO s).length :: eO s) ++ x = w.out ++ UInt8.ofNat (eO s).length :: (eO s ++ x) by simp, byteAt_at, UInt8.toNat_ofNat']
            omega
          have hl : w.out.length + 1 + (eO s).length ≤ b.length := by have := hb.1; rw [hx] at this; simp at this; omega
          rw [fS, dif_pos (by omega), if_neg (by omega), dif_pos (by omega), dif_pos (by omega)] at hn
          split at hn
          · cases hn
          · rw [h0] at hn
            refine nameGo_end short f _ _ _ (by exact ht.put) h b (acc ++ seg b (w.out.length + 1) (eO s).length ++ [46]) o e e' (hb.from (by simp)) ?_
            show fS b (w.out ++ UInt8.ofNat (eO s).length :: eO s).length _ 0 e = _
            rw [show (w.out ++ UInt8.ofNat (eO s).length :: eO s).length = w.out.length + 1 + (eO s).length by simp; omega]
            exact hn
theorem nameP_end {short : Bool} {s : List UInt8} {w w2 : Ink} (ht : Pl w.tbl) (h : nameP short s w = some w2) {b o : List UInt8} {e' : Nat} (hb : On b w.out.length w2.out) (hn : name b w.out.length = some (o, e')) : e' = w2.out.length := by
  unfold nameP at h
  unfold name at hn
  split at h
  · cases h
  · split at h
    · refine nameGo_end short 1 [] w w2 ht ?_ _ _ _ _ _ hb hn
      rw [nameGo, if_pos rfl]; exact h
    · exact nameGo_end _ _ _ _ _ ht h _ _ _ _ _ hb hn
end Go.Proofs.YtgpfjlfkaoffeaaGreatDoor
namespace Go.Proofs.YtgpfjlfkaoffeaaGreatDoor
open Go
theorem recP_form {r : fY} {w w3 : Ink} (h : recP r w = some w3) : ∃ (w1 : Ink) (x : List UInt8), nameP true (eN r.name) w = some w1 ∧ x.length ≤ 65535 ∧
    w3.out = w1.out ++ ((be2 (eG r) ++ be2 r.cls ++ be4 r.ttl ++ be2 x.length) ++ x) ∧ (Pl w.tbl → Pl w3.tbl) := by
  unfold recP at h
  obtain ⟨w1, h1, h2⟩ := Option.bind_eq_some_iff.1 h
  obtain ⟨w2, h3, h4⟩ := Option.bind_eq_some_iff.1 h2
  obtain ⟨x, hx⟩ := bodyP_ext h3
  simp only [Ink.put] at hx
  have hl : w2.out.length - (w1.out.length + 10) = x.length := by rw [hx]; simp [be2, be4]; omega
  rw [hl] at h4
  split at h4
  · cases h4
  · rename_i hle
    cases h4
    refine ⟨w1, x, h1, by omega, ?_, fun hb => show Pl w2.tbl from bodyP_bd (w := w1.put _) (show Pl w1.tbl from nameP_bd hb h1) h3⟩
    simp only [hx]
    have e8 : (be2 (eG r) ++ be2 r.cls ++ be4 r.ttl).length = 8 := rfl
    have e2 : (w1.out ++ (be2 (eG r) ++ be2 r.cls ++ be4 r.ttl)).length = w1.out.length + 8 := by rw [List.length_append, e8]
    have e3 : (w1.out ++ (be2 (eG r) ++ be2 r.cls ++ be4 r.ttl) ++ be2 0).length = w1.out.length + 8 + (be2 x.length).length := by rw [List.length_append, e2]; rfl
    unfold setAt
    rw [show w1.out ++ (be2 (eG r) ++ be2 r.cls ++ be4 r.ttl ++ be2 0) ++ x = (w1.out ++ (be2 (eG r) ++ be2 r.cls ++ be4 r.ttl)) ++ (be2 0 ++ x) by simp only [List.append_assoc]]
    rw [List.take_left' e2]
    rw [show (w1.out ++ (be2 (eG r) ++ be2 r.cls ++ be4 r.ttl)) ++ (be2 0 ++ x) = (w1.out ++ (be2 (eG r) ++ be2 r.cls ++ be4 r.ttl) ++ be2 0) ++ x by simp only [List.append_assoc]]
    rw [List.drop_left' e3]
    simp only [List.append_assoc]
theorem recP_ext {r : fY} {w w3 : Ink} (h : recP r w = some w3) : ∃ x, w3.out = w.out ++ x := by
  obtain ⟨w1, x, h1, _, h2, _⟩ := recP_form h
  obtain ⟨y, hy⟩ := nameP_ext h1
  exact ⟨_, by rw [h2, hy, List.append_assoc]⟩
theorem recsP_ext : ∀ {l : List fY} {w w2 : Ink}, recsP l w = some w2 → ∃ x, w2.out = w.out ++ x
  | [], w, w2, h => by cases h; exact ⟨[], by simp⟩
  | r :: l, w, w2, h => by
    obtain ⟨w3, h1, h2⟩ := Option.bind_eq_some_iff.1 h
    obtain ⟨x, hx⟩ := recP_ext h1
    obtain ⟨y, hy⟩ := recsP_ext h2
    exact ⟨x ++ y, by rw [hy, hx, List.append_assoc]⟩
theorem recsP_bd : ∀ {l : List fY} {w w2 : Ink}, Pl w.tbl → recsP l w = some w2 → Pl w2.tbl
  | [], w, w2, hb, h => by cases h; exact hb
  | r :: l, w, w2, hb, h => by
    obtain ⟨w3, h1, h2⟩ := Option.bind_eq_some_iff.1 h
    obtain ⟨_, _, _, _, _, h3⟩ := recP_form h1
    exact recsP_bd (h3 hb) h2
theorem askP_form {a : PAsk} {w w3 : Ink} (h : askP a w = some w3) : ∃ w1, nameP true (eN a.name) w = some w1 ∧ w3.out = w1.out ++ (be2 a.type ++ be2 a.cls) ∧ (Pl w.tbl → Pl w3.tbl) := by
  unfold askP at h
  obtain ⟨w1, h1, rfl⟩ := Option.map_eq_some_iff.1 h
  exact ⟨w1, h1, rfl, fun hb => show Pl w1.tbl from nameP_bd hb h1⟩
theorem asksP_ext : ∀ {l : List PAsk} {w w2 : Ink}, asksP l w = some w2 → ∃ x, w2.out = w.out ++ x
  | [], w, w2, h => by cases h; exact ⟨[], by simp⟩
  | r :: l, w, w2, h => by
    obtain ⟨w3, h1, h2⟩ := Option.bind_eq_some_iff.1 h
    obtain ⟨w1, h3, h4, _⟩ := askP_form h1
    obtain ⟨x, hx⟩ := nameP_ext h3
    obtain ⟨y, hy⟩ := asksP_ext h2
    exact ⟨_, by rw [hy, h4, hx, List.append_assoc, List.append_assoc]⟩
theorem asksP_bd : ∀ {l : List PAsk} {w w2 : Ink}, Pl w.tbl → asksP l w = some w2 → Pl w2.tbl
  | [], w, w2, hb, h => by cases h; exact hb
  | r :: l, w, w2, hb, h => by
    obtain ⟨w3, h1, h2⟩ := Option.bind_eq_some_iff.1 h
    obtain ⟨_, _, _, h3⟩ := askP_form h1
    exact asksP_bd (h3 hb) h2
theorem rd16_of {b : List UInt8} {i n : Nat} (h : rd16 b i = some n) : i + 2 ≤ b.length ∧ n = w16 b i := by
  unfold rd16 at h
  split at h
  · simp at h; exact ⟨by assumption, h.symm⟩
  · cases h
theorem w16_on {b o : List UInt8} {i k : Nat} (h : On b i o) (hk : i ≤ k) (hl : k + 2 ≤ o.length) : w16 b k = w16 o k := by
  unfold w16; rw [h.2 k hk (by omega), h.2 (k + 1) (by omega) (by omega)]
theorem w16_be2 (a : List UInt8) (n : Nat) (c : List UInt8) (hn : n ≤ 65535) : w16 (a ++ (be2 n ++ c)) a.length = n := by
  have h1 : eB (a ++ (be2 n ++ c)) a.length = (UInt8.ofNat (n / 256)).toNat := byteAt_at a _ _
  have h2 : eB (a ++ (be2 n ++ c)) (a.length + 1) = (UInt8.ofNat n).toNat := by
    have := byteAt_at (a ++ [UInt8.ofNat (n / 256)]) (UInt8.ofNat n) c
    simpa [be2] using this
  unfold w16
  rw [h1, h2, UInt8.toNat_ofNat', UInt8.toNat_ofNat']
  omega
theorem header_end {r hr : fY} {w w3 : Ink} {b : List UInt8} {e : Nat} (ht : Pl w.tbl) (h : recP r w = some w3) (hb : On b w.out.length w3.out) (hh : header b w.out.length = some (hr, e)) : e + hr.length = w3.out.length := by
  obtain ⟨w1, x, h1, hx, h2, _⟩ := recP_form h
  obtain ⟨y, hy⟩ := nameP_ext h1
  unfold header at hh
  obtain ⟨⟨nm, e1⟩, g1, hh⟩ := Option.bind_eq_some_iff.1 hh
  obtain ⟨t, g2, hh⟩ := Option.bind_eq_some_iff.1 hh
  obtain ⟨c, g3, hh⟩ := Option.bind_eq_some_iff.1 hh
  obtain ⟨ttl, g4, hh⟩ := Option.bind_eq_some_iff.1 hh
  obtain ⟨n, g5, hh⟩ := Option.map_eq_some_iff.1 hh
  have he1 : e1 = w1.out.length := nameP_end ht h1 (h2 ▸ hb).pre g1
  subst he1
  cases hh
  obtain ⟨_, hn⟩ := rd16_of g5
  have e8 : (w1.out ++ (be2 (eG r) ++ be2 r.cls ++ be4 r.ttl)).length = w1.out.length + 8 := by rw [List.length_append]; rfl
  have h3 : w3.out = (w1.out ++ (be2 (eG r) ++ be2 r.cls ++ be4 r.ttl)) ++ (be2 x.length ++ x) := by rw [h2]; simp only [List.append_assoc]
  have h4 : w3.out.length = w1.out.length + 10 + x.length := by rw [h3, List.length_append, e8, List.length_append]; simp [be2]; omega
  have h5 : w16 b (w1.out.length + 8) = x.length := by
    rw [w16_on hb (by rw [hy]; simp; omega) (by omega), h3, ← e8]
    exact w16_be2 _ _ _ hx
  have hn2 : n = w16 b (w1.out.length + 8) := hn
  show w1.out.length + 10 + n = _
  omega
theorem recordM_end {b : List UInt8} {r : fY} {w w3 : Ink} (ht : Pl w.tbl) (h : recP r w = some w3) (hb : On b w.out.length w3.out) {m : PM} {s : Nat} (h1 : m.sec = s) (h2 : m.valid = false) (h3 : m.index ≠ count b s) (h4 : m.at_ = w.out.length) :
    (∃ mm, recordM b m s = (.other, none, mm)) ∨ ∃ R mm, recordM b m s = (.ok, some R, mm) ∧ mm.sec = s ∧ mm.valid = false ∧ mm.index = m.index + 1 ∧ mm.at_ = w3.out.length := by
  obtain ⟨sec, index, at_, valid, ha, hty, hln⟩ := m
  simp only at h1 h2 h3 h4
  subst h1 h2 h4
  have hadv : fH b { sec := sec, index := index, at_ := w.out.length, headAt := ha, htype := hty, hlen := hln } sec = (.ok, { sec := sec, index := index, at_ := w.out.length, headAt := ha, htype := hty, hlen := hln }) := by
    unfold fH
    rw [if_neg (Nat.lt_irrefl _), if_neg (Nat.lt_irrefl _), if_neg h3]
  unfold recordM beginM
  simp only [Bool.false_eq_true, if_false, hadv]
  cases hh : header b w.out.length with
  | none => exact .inl ⟨_, rfl⟩
  | some re =>
    obtain ⟨hr, e⟩ := re
    have he := header_end ht h hb hh
    simp only
    cases hbd : body b e (eE hr.type) hr.length with
    | none => exact .inl ⟨_, rfl⟩
    | some R => exact .inr ⟨_, _, rfl, rfl, rfl, rfl, he⟩
theorem allRecs_end {b : List UInt8} {s : Nat} : ∀ (l : List fY) (w w2 : Ink) (m : PM) (acc : List fY) (n : Nat), Pl w.tbl → recsP l w = some w2 → On b w.out.length w2.out → m.sec = s → m.valid = false → m.at_ = w.out.length → m.index + l.length ≤ count b s → l.length ≤ n →
    (∃ mm, eR b s n m acc = (.other, [], mm)) ∨ ∃ m2 acc2, eR b s n m acc = eR b s (n - l.length) m2 acc2 ∧ m2.sec = s ∧ m2.valid = false ∧ m2.at_ = w2.out.length ∧ m2.index = m.index + l.length
  | [], w, w2, m, acc, n, _, h, _, h1, h2, h3, _, _ => by cases h; exact .inr ⟨m, acc, rfl, h1, h2, h3, rfl⟩
  | r :: l, w, w2, m, acc, n, ht, h, hb, h1, h2, h3, h4, h5 => by
    obtain ⟨w3, g1, g2⟩ := Option.bind_eq_some_iff.1 h
    obtain ⟨x, hx⟩ := recsP_ext g2
    obtain ⟨_, _, _, _, _, hbd⟩ := recP_form g1
    obtain ⟨y, hy⟩ := recP_ext g1
    rw [List.length_cons] at h4 h5
    obtain ⟨k, rfl⟩ : ∃ k, n = k + 1 := ⟨n - 1, by omega⟩
    rw [eR]
    rcases recordM_end ht g1 (hx ▸ hb).pre h1 h2 (by omega) h3 with ⟨mm, he⟩ | ⟨R, mm, he, e1, e2, e3, e4⟩
    · rw [he]; exact .inl ⟨_, rfl⟩
    · rw [he]
      simp only
      rcases allRecs_end l w3 w2 mm (acc ++ [R]) k (hbd ht) g2 (hb.from (by rw [hy]; simp)) e1 e2 e4 (by omega) (by omega) with ⟨m3, hm⟩ | ⟨m2, acc2, hm, f1, f2, f3, f4⟩
      · exact .inl ⟨m3, hm⟩
      · exact .inr ⟨m2, acc2, by rw [hm, List.length_cons, Nat.add_sub_add_right], f1, f2, f3, by rw [f4, e3, List.length_cons]; omega⟩
theorem allRecs_done {b : List UInt8} {s n : Nat} {m : PM} {acc : List fY} (h1 : m.sec = s) (h2 : m.valid = false) (h3 : m.index = count b s) (hn : 0 < n) : ∃ mm, eR b s n m acc = (.ok, acc, mm) ∧ mm.sec = s + 1 ∧ mm.valid = false ∧ mm.index = 0 ∧ mm.at_ = m.at_ := by
  obtain ⟨sec, index, at_, valid, ha, hty, hln⟩ := m
  simp only at h1 h2 h3
  subst h1 h2 h3
  obtain ⟨k, rfl⟩ : ∃ k, n = k + 1 := ⟨n - 1, by omega⟩
  have hadv : fH b { sec := sec, index := count b sec, at_ := at_, headAt := ha, htype := hty, hlen := hln } sec = (.done, { sec := sec + 1, index := 0, at_ := at_, headAt := ha, htype := hty, hlen := hln }) := by
    unfold fH
    rw [if_neg (Nat.lt_irrefl _), if_neg (Nat.lt_irrefl _), if_pos rfl]
  rw [eR]
  unfold recordM beginM
  simp only [Bool.false_eq_true, if_false, hadv]
  exact ⟨_, rfl, rfl, rfl, rfl, rfl⟩
theorem name_over {b : List UInt8} {i : Nat} (h : b.length ≤ i) : name b i = none := by unfold name; rw [fS, dif_neg (by omega)]
theorem allRecs_over {b : List UInt8} {s n : Nat} {m : PM} {acc : List fY} (h1 : m.sec = s) (h2 : m.valid = false) (h3 : m.index ≠ count b s) (h4 : b.length ≤ m.at_) (hn : 0 < n) : ∃ mm, eR b s n m acc = (.other, [], mm) := by
  obtain ⟨sec, index, at_, valid, ha, hty, hln⟩ := m
  simp only at h1 h2 h3 h4
  subst h1 h2
  obtain ⟨k, rfl⟩ : ∃ k, n = k + 1 := ⟨n - 1, by omega⟩
  have hadv : fH b { sec := sec, index := index, at_ := at_, headAt := ha, htype := hty, hlen := hln } sec = (.ok, { sec := sec, index := index, at_ := at_, headAt := ha, htype := hty, hlen := hln }) := by
    unfold fH
    rw [if_neg (Nat.lt_irrefl _), if_neg (Nat.lt_irrefl _), if_neg h3]
  have hh : header b at_ = none := by unfold header; rw [name_over h4]; rfl
  rw [eR]
  unfold recordM beginM
  simp only [Bool.false_eq_true, if_false, hadv, hh]
  exact ⟨_, rfl⟩
end Go.Proofs.YtgpfjlfkaoffeaaGreatDoor

/- Packing: a message converted. Packing: a message packed. A parser that is started, and no more. The law's guard packs(), for the packing laws. The reference's machine in memory. -/
import Derived.Test.YtgpfjlfkaoffeaaGreatDoorU24
import Derived.Test.YtgpfjlfkaoffeaaGreatDoorU19
import Derived.Test.YtgpfjlfkaoffeaaGreatDoorU22
import Derived.Test.YtgpfjlfkaoffeaaGreatDoorU23
import Derived.Test.YtgpfjlfkaoffeaaGreatDoorU06
set_option linter.all false
namespace Go.Proofs.YtgpfjlfkaoffeaaGreatDoor
open Go
theorem St.frameL {w0 w w1 : World} {V0 V V' : Vw} {L : List (Nat × Obj)} (h : St ⟨w0, V0, V⟩ w L) : ∀ {M : List (Nat × Obj)}, St ⟨w, V, V'⟩ w1 M → (∀ x ∈ M, w.heap.size ≤ x.1) → St ⟨w0, V0, V'⟩ w1 (M ++ L)
 | [], hc, _ => h.frame hc
 | (b, o) :: M, hc, hb => by
  have hb1 := hb _ (List.mem_cons_self ..)
  refine (h.frameL (hc.drop hb1) (fun x hx => hb x (List.mem_cons_of_mem _ hx))).add (hc.get (k := 0) rfl) (hc.unf _ (List.mem_cons_self ..)) (fun x hx e => ?_) (hc.off (k := 0) rfl)
  rcases List.mem_append.1 hx with hx | hx
  have := hc.nodup
  simp only [List.map_cons, List.nodup_cons] at this
  exact this.1 (e ▸ List.mem_map_of_mem hx)
  have := h.lt hx
  simp only at hb1; omega
theorem Sl.block {E : TypeId} {size n : Nat} {B : Base} {w : World} {L : List (Nat × Obj)} {v : Value} {xs : List Value} (h : Sl E size B w L v n xs) (hv : v ≠ .slice none 0 0) :
  ∃ g cap sp, v = .slice (some ⟨g, 0, none⟩) n cap ∧ B.heap.size ≤ g ∧ St B w ((g, .cells (xs ++ sp).toArray E (0, 0)) :: L) := by
 rcases h.2 with ⟨h1, _⟩ | ⟨g, cap, sp, h1, _, _, _, h2, h3⟩
 exact absurd h1 hv
 exact ⟨g, cap, sp, h1, h2, h3⟩
structure RecOk (r : fY) : Prop where
 mid : Mid r
 fit : FitR r
 k1 : 1 ≤ r.kind
 k13 : r.kind ≤ 13
 type : eG r < 65536
 cls : r.cls < 65536
 length : r.length < 65536
theorem Sec.of {V : Vw} {l : List fY} {xs sp : List Value} (h : Rows 261 (ResR V) l xs) (hf : ∀ r ∈ l, RecOk r) : Sec V (xs ++ sp) l := by
 refine ⟨by rw [List.length_append, h.len]; omega, fun i hi => ?_, fun r hr => ?_⟩
 obtain ⟨c, ⟨bv, rfl, hB⟩, hcl, hct⟩ := h.at (List.getElem?_eq_getElem hi)
 refine ⟨bv, fun j u hu => ?_, hB⟩
 have h1 := fN hct hu
 have h2 : i * 261 + j < xs.length := by
  rcases Nat.lt_or_ge (i * 261 + j) xs.length with h | h
  exact h
  rw [List.getElem?_eq_none h] at h1; cases h1
 rw [List.getElem?_append_left h2]; exact h1
 have h := hf r hr
 exact ⟨h.fit, h.k1, h.k13, h.type, h.cls, h.length⟩
theorem Sec.mono {V V' : Vw} (hV : V.le V') {l : List fY} {rs : List Value} (h : Sec V rs l) : Sec V' rs l := by
 refine ⟨h.len, fun i hi => ?_, h.fit⟩
 obtain ⟨bv, h1, h2⟩ := h.row i hi
 have hk := (h.fit _ (List.getElem_mem hi)).2
 exact ⟨bv, h1, h2.mono hV hk.1 hk.2.1⟩
structure MOk (m : PMess) : Prop where
 nq : m.asks.length ≤ 65535
 na : m.answers.length ≤ 65535
 nu : m.authorities.length ≤ 65535
 nd : m.additionals.length ≤ 65535
 ask : ∀ a ∈ m.asks, a.name.length ≤ 4294967296 ∧ a.type < 65536 ∧ a.cls < 65536
 ans : ∀ r ∈ m.answers, RecOk r
 aut : ∀ r ∈ m.authorities, RecOk r
 add : ∀ r ∈ m.additionals, RecOk r
 id : m.head.id < 65536
 op : m.head.op < 16
 code : m.head.code < 16
def msgV (m : PMess) (bq cq ba ca bu cu bd cd : Nat) : List Value :=
 fJ m.head ++ [.slice (some ⟨bq, 0, none⟩) m.asks.length cq, .slice (some ⟨ba, 0, none⟩) m.answers.length ca, .slice (some ⟨bu, 0, none⟩) m.authorities.length cu, .slice (some ⟨bd, 0, none⟩) m.additionals.length cd]
theorem askV_len (a : PAsk) : (askV a).length = 258 := by simp [askV, cM (eL a.name)]
theorem RRecs.form {V : Vw} {v : Value} {l : List fY} (h : RRecs V v l) : ∃ a c, v = .slice a l.length c := by
 obtain ⟨xs, hS, _⟩ := h
 obtain ⟨a, c, h1, _⟩ := hS.form
 exact ⟨a, c, h1⟩
theorem perm5 (x y z u v : Nat × Obj) : List.Perm [x, y, z, u, v] [u, v, x, y, z] := by
 have := List.perm_append_comm (l₁ := [x, y, z]) (l₂ := [u, v])
 simpa using this
section
variable {A : Nat → Addr} {V : Vw} {w0 : World} {m : PMess} {va v1 v2 v3 : Value}
set_option maxHeartbeats 8000000 in
theorem p_messageOf (hV : V.In w0) (hQ : RAsks V va m.asks) (hA : RRecs V v1 m.answers) (hU : RRecs V v2 m.authorities) (hD : RRecs V v3 m.additionals) (hm : MOk m) :
  eC Tryz.prog 14 #[.agg (fJ m.head ++ [va, v1, v2, v3]).toArray] w0 fun v w' => ∃ (V' : Vw) (bq cq ba ca bu cu bd cd : Nat) (rsA rsU rsD : List Value),
   v = .agg (msgV m bq cq ba ca bu cu bd cd).toArray ∧ (∀ i (h : i < m.asks.length), ∀ j u, (askV m.asks[i])[j]? = some u → V'.cell bq (i * 258 + j) = some u) ∧ Sec V' rsA m.answers ∧ Sec V' rsU m.authorities ∧ Sec V' rsD m.additionals ∧
   w0.heap.size ≤ ba ∧ w0.heap.size ≤ bu ∧ w0.heap.size ≤ bd ∧
   St ⟨w0, V, V'⟩ w' [(bd, .cells rsD.toArray 116 (0, 0)), (bu, .cells rsU.toArray 116 (0, 0)), (ba, .cells rsA.toArray 116 (0, 0))] := by
 have hnq := hm.nq
 have hna := hm.na
 have hnu := hm.nu
 have hnd := hm.nd
 obtain ⟨a1, c1, rfl⟩ := hA.form
 obtain ⟨a2, c2, rfl⟩ := hU.form
 obtain ⟨a3, c3, rfl⟩ := hD.form
 obtain ⟨xs, hS, hR⟩ := hQ
 obtain ⟨a, cap, rfl, hcap, ha⟩ := hS.form
 have hs := St.start hV
 refine aT [_] Tryz.func14 Tryz.ntmps14 Tryz.results14 rfl rfl (dP (aJ (cR hs rfl rfl rfl (fun b1 w hb1 hbe1 hs => aJ (aX hs z_54 rfl (fun b2 w hb2 he2 hs => ?_))))))
 replace hs : St ⟨w0, V, V⟩ _ [(b2, .cells (fJ {} ++ [Value.slice none 0 0, .slice none 0 0, .slice none 0 0, .slice none 0 0]).toArray 54 (0, 0)), (b1, .cells (fJ m.head ++ [Value.slice a m.asks.length cap, .slice a1 m.answers.length c1, .slice a2 m.authorities.length c2, .slice a3 m.additionals.length c3]).toArray 36 (0, 0))] := hs
 refine aH (dP (aJ (fP es_51 hs rfl (fun b6 w hb6 he6 hs => ?_))))
 have hsl := Sl.empty (size := 258) hs hb6
 refine dN rfl rfl (aH (aF (dP (lp (aR fo_36_1 rfl) rfl (lp (aO rfl (cT (a := fJ m.head) (i := 0) k_34 (hs.g 2 rfl) rfl rfl rfl)) rfl (lp (bC Tryz.underlying34 rfl) rfl (dM rfl rfl (aH (bQ (dC (fun g : Nat × List Value × Value => eH (eH (eH (eH (eH (eH emp 10 (.int .i64 g.1)) 9 (.int .i64 m.asks.length)) 8 (.slice a m.asks.length cap)) 3 g.2.2) 2 (.pointer (some ⟨b2, 0, none⟩))) 1 (.pointer (some ⟨b1, 0, none⟩))) (fun g w' => Sl 90 258 ⟨w0, V, V⟩ w' [(b2, .cells (fJ {} ++ [Value.slice none 0 0, .slice none 0 0, .slice none 0 0, .slice none 0 0]).toArray 54 (0, 0)), (b1, .cells (fJ m.head ++ [Value.slice a m.asks.length cap, .slice a1 m.answers.length c1, .slice a2 m.authorities.length c2, .slice a3 m.additionals.length c3]).toArray 36 (0, 0))] g.2.2 g.1 g.2.1 ∧ Rows 258 (fun x c => c = askV x) (m.asks.take g.1) g.2.1 ∧ g.1 ≤ m.asks.length ∧ g.2.2 ≠ .slice none 0 0) (fun g => m.asks.length - g.1) (0, [], .slice (some ⟨b6, 0, none⟩) 0 0) (aL rfl (aL rfl (aL rfl (aL rfl (aL rfl (aL rfl (bG _))))))) ⟨hsl, rfl, Nat.zero_le _, fun e => by cases e⟩ ?_))))))))))
 clear hsl hs
 rintro ⟨j, ys, sv⟩ w ⟨hsl, hrows, hj, hsv0⟩
 simp only at hsl hrows hj hsv0 ⊢
 refine dP (lp (cY rfl rfl) rfl (aH (aF (bH rfl (fun hc0 => ?_) (fun hc0 => ?_)))))
 obtain ⟨b, p, rfl, hca⟩ := ha (by omega)
 have hjl : j < m.asks.length := by omega
 obtain ⟨c, rfl, hcl, hct⟩ := hR.at (List.getElem?_eq_getElem hjl)
 obtain ⟨hnm, _, _⟩ := hm.ask _ (List.getElem_mem hjl)
 obtain ⟨X, hX, hs⟩ := hsl.open
 refine aW (aF (bQ (dP (lp (eZ j (p + j * 3) es_34 rfl rfl rfl hjl rfl) rfl ?_))))
 refine lp (aO rfl (ld_cells (l := askC m.asks[j]) k_77 rfl (fun i u hu => by
  rw [Nat.add_assoc]
  exact Vw.cell_in hs.isIn (hca _ _ (fN hct hu))))) rfl ?_
 refine aJ (aX hs z_77 rfl (fun b5 w hb5 he5 hs => aJ (dR 0 hs k_77 rfl rfl rfl rfl rfl (aG rfl) rfl (fun w hs => aH (aB (dM rfl rfl (lp (aO rfl (aP k_77 (hs.g 0 rfl) rfl)) rfl (aZ ok_31 rfl rfl (p_questionOf hs.isIn m.asks[j] hnm) rfl (fun v16 w HF => ?_)))))))))
 obtain ⟨rfl, hc⟩ := HF
 replace hs := hs.frame hc
 refine aJ (o_bslice (vls := [askV m.asks[j]]) el_51 hs rfl rfl rfl rfl (by intro q hq; simp at hq; subst hq; exact askV_len _) (by decide) (by decide) rfl (fun b17 w hb17 he17 hs => ?_))
 rw [show [askV m.asks[j]].flatten = askV m.asks[j] by simp] at hs
 refine aJ (fA (k := 1) (news := askV m.asks[j]) el_51 (.inr ⟨_, Tryz.underlying51⟩) (SlX.close (L := [_, _, _, _]) hX hs) rfl rfl (src_own (k := 0) hs rfl (askV_len _)) (fD (eU _ _) (aG rfl)) (by omega) (by omega) rfl (fun v18 w hs => ?_))
 replace hs := (hs.drop hb17).drop hb5
 refine dN rfl rfl (aH (aB (lp (bN rfl rfl (fV (c := j + 1) (by omega) (by omega))) rfl (dM rfl rfl (aH ?_)))))
 exact ⟨(j + 1, _, v18), aL rfl (aL rfl (aL rfl (aL rfl (aL rfl (aL rfl (bG _)))))), ⟨hs, by
  show Rows 258 _ (m.asks.take (j + 1)) _
  rw [List.take_add_one, List.getElem?_eq_getElem hjl]
  exact Rows.snoc hrows rfl (askV_len _), by simp only; omega, hs.notNil (by omega)⟩, by simp only; omega⟩
 refine eT (aF ?_)
 have hjn : j = m.asks.length := by omega
 subst hjn
 rw [List.take_length] at hrows
 obtain ⟨bq, cq, spq, rfl, hbq, hs⟩ := hsl.block hsv0
 obtain ⟨V1, hle1, hvq, hs⟩ := St.give hs hbq
 refine e_draw (fun w2 => w2.heap[b1]? = some (.cells (fJ m.head ++ [Value.slice a m.asks.length cap, .slice a1 m.answers.length c1, .slice a2 m.authorities.length c2, .slice a3 m.additionals.length c3]).toArray 36 (0, 0))) [1, 5, 8, 11] mixed (fun w hw => ?_)
 replace hs := hw.st hs
 refine dI 0 rfl (fun w => aR fo_36_0 rfl) rfl rfl (dJ 1 rfl (hs.g 1 rfl) rfl (fun w hf => (aO rfl (ld_hd (a := fJ m.head) bZ hf rfl))) rfl (dI 3 rfl (fun w => aC rfl) rfl rfl (dI 4 rfl (fun w => aR fo_36_2 rfl) rfl rfl (dJ 5 rfl (hs.g 1 rfl) rfl (fun w hf => (aO rfl (cT (a := fJ m.head) k_31 hf rfl (i := 1) rfl rfl))) rfl (dI 7 rfl (fun w => aR fo_36_3 rfl) rfl rfl (dJ 8 rfl (hs.g 1 rfl) rfl (fun w hf => (aO rfl (cT (a := fJ m.head) k_31 hf rfl (i := 2) rfl rfl))) rfl (dI 10 rfl (fun w => aR fo_36_4 rfl) rfl rfl (dJ 11 rfl (hs.g 1 rfl) rfl (fun w hf => (aO rfl (cT (a := fJ m.head) k_31 hf rfl (i := 3) rfl rfl))) rfl (dL 2 rfl (cF (cD rfl rfl ok_32 (p_headerOf hs.isIn m.head)) rfl (fun v22 w HF => ?_)))))))))))
 obtain ⟨rfl, hc⟩ := HF
 replace hs := hs.frame hc
 refine ⟨fun _ => hs.g 1 rfl, dL 6 rfl (cF (cD rfl rfl ok_33 (p_resourcesOf hs.isIn (hA.mono (Vw.le_trans hle1 V1.le_refl)) (by omega) (fun r hr => ⟨(hm.ans r hr).mid, (hm.ans r hr).k1, (hm.ans r hr).k13⟩))) rfl (fun v26 w HF => ?_))⟩
 obtain ⟨V2, xsA, hn26, hslA, hrA⟩ := HF
 have hleA := hslA.st.view
 obtain ⟨ba, ca, spA, rfl, hba, hcA⟩ := hslA.block hn26
 have hba' := Nat.le_trans hs.size hba
 replace hs := hs.frameL hcA (fun x hx => by simp at hx; subst hx; exact hba)
 refine ⟨fun _ => hs.g 2 rfl, dL 9 rfl (cF (cD rfl rfl ok_33 (p_resourcesOf hs.isIn (hU.mono (Vw.le_trans hle1 hleA)) (by omega) (fun r hr => ⟨(hm.aut r hr).mid, (hm.aut r hr).k1, (hm.aut r hr).k13⟩))) rfl (fun v29 w HF => ?_))⟩
 obtain ⟨V3, xsU, hn29, hslU, hrU⟩ := HF
 have hleU := hslU.st.view
 obtain ⟨bu, cu, spU, rfl, hbu, hcU⟩ := hslU.block hn29
 have hbu' := Nat.le_trans hs.size hbu
 replace hs := hs.frameL hcU (fun x hx => by simp at hx; subst hx; exact hbu)
 refine ⟨fun _ => hs.g 3 rfl, dL 12 rfl (cF (cD rfl rfl ok_33 (p_resourcesOf hs.isIn (hD.mono (Vw.le_trans hle1 (Vw.le_trans hleA hleU))) (by omega) (fun r hr => ⟨(hm.add r hr).mid, (hm.add r hr).k1, (hm.add r hr).k13⟩))) rfl (fun v32 w HF => ?_))⟩
 obtain ⟨V4, xsD, hn32, hslD, hrD⟩ := HF
 have hleD := hslD.st.view
 obtain ⟨bd, cd, spD, rfl, hbd, hcD⟩ := hslD.block hn32
 have hbd' := Nat.le_trans hs.size hbd
 replace hs := hs.frameL hcD (fun x hx => by simp at hx; subst hx; exact hbd)
 refine ⟨fun _ => hs.g 4 rfl, dI 13 rfl (fun w => (fO [fJ m.head, [.slice (some ⟨bq, 0, none⟩) m.asks.length cq], [.slice (some ⟨ba, 0, none⟩) m.answers.length ca], [.slice (some ⟨bu, 0, none⟩) m.authorities.length cu], [.slice (some ⟨bd, 0, none⟩) m.additionals.length cd]] st_54 rfl rfl rfl rfl rfl)) rfl rfl (dL 14 rfl (dR 3 hs k_54 rfl rfl rfl rfl rfl (aG rfl) rfl (fun w hs => ⟨fun h => absurd h (by decide +kernel), bS (by decide +kernel) (aV ⟨_, fW ⟨_, rfl, aP k_54 (hs.g 3 rfl) rfl⟩, ⟨V4, bq, cq, ba, ca, bu, cu, bd, cd, xsA ++ spA, xsU ++ spU, xsD ++ spD, rfl, fun i hi j u hu => ?_, ((Sec.of hrA hm.ans).mono hleU).mono hleD, (Sec.of hrU hm.aut).mono hleD, Sec.of hrD hm.add, hba', hbu', hbd', ?_⟩⟩)⟩)))⟩
 obtain ⟨c, rfl, hcl, hct⟩ := hrows.at (List.getElem?_eq_getElem hi)
 have h1 := fN hct hu
 have h2 : i * 258 + j < ys.length := by
  rcases Nat.lt_or_ge (i * 258 + j) ys.length with h | h
  exact h
  rw [List.getElem?_eq_none h] at h1; cases h1
 refine Vw.cell_le (Vw.le_trans hleA (Vw.le_trans hleU hleD)) (Vw.cell_of hvq ?_)
 rw [List.getElem?_append_left h2]; exact h1
 exact (hs.perm (M := (b2, _) :: (b1, _) :: [_, _, _]) (perm5 ..)).drop hb2 |>.drop hb1
end
end Go.Proofs.YtgpfjlfkaoffeaaGreatDoor
namespace Go.Proofs.YtgpfjlfkaoffeaaGreatDoor
open Go
section
variable {A : Nat → Addr} {V V0 : Vw} {w w00 : World} {L : List (Nat × Obj)} {bx bq ba bu bd ca cu cd cq : Nat} {m : PMess} {rsA rsU rsD : List Value} {E : TypeId}
set_option maxHeartbeats 2000000 in
theorem p_MPack (hG : Gl A V) (hs : St ⟨w00, V0, V⟩ w ((ba, .cells rsA.toArray E (0, 0)) :: (bu, .cells rsU.toArray E (0, 0)) :: (bd, .cells rsD.toArray E (0, 0)) :: L)) 
  (hMsg : fG ⟨w00, V0, V⟩ L bx 0 (msgV m bq cq ba ca bu cu bd cd))
  (hQ : ∀ i (h : i < m.asks.length), fG ⟨w00, V0, V⟩ L bq (i * 258) (askV m.asks[i]))
  (hA : Sec V rsA m.answers) (hU : Sec V rsU m.authorities) (hD : Sec V rsD m.additionals) (hm : MOk m) :
  eC Tryz.prog 15 #[.pointer (some ⟨bx, 0, none⟩)] w fun v w' => ∃ (mv e : Value) (k : EK) (rsA' rsU' rsD' : List Value), v = .tuple #[mv, e] ∧ ErrV A e k ∧
   ((∃ o, k = .ok ∧ packM m = some o ∧ Sl 5 1 ⟨w00, V0, V⟩ w' ((ba, .cells rsA'.toArray E (0, 0)) :: (bu, .cells rsU'.toArray E (0, 0)) :: (bd, .cells rsD'.toArray E (0, 0)) :: L) mv o.length (o.map eA)) ∨
    (k = .other ∧ packM m = none ∧ St ⟨w00, V0, V⟩ w' ((ba, .cells rsA'.toArray E (0, 0)) :: (bu, .cells rsU'.toArray E (0, 0)) :: (bd, .cells rsD'.toArray E (0, 0)) :: L))) := by
 refine aT [_] Tryz.func15 Tryz.ntmps15 Tryz.results15 rfl rfl (dP (dN rfl rfl (dN rfl rfl (aH (dP (dM rfl rfl (aJ (o_make (c := 512) (l := 0) el_23 hs rfl rfl rfl rfl (by decide) (by decide) (by decide) rfl (fun b5 w hb5 he5 hs => ?_)))))))))
 rw [made_one] at hs
 have hsl : Sl 5 1 ⟨w00, V0, V⟩ w ((ba, .cells rsA.toArray E (0, 0)) :: (bu, .cells rsU.toArray E (0, 0)) :: (bd, .cells rsD.toArray E (0, 0)) :: L) (.slice (some ⟨b5, 0, none⟩) ([] : List UInt8).length 512) ([] : List UInt8).length (([] : List UInt8).map eA) := ⟨rfl, .inr ⟨b5, 512, _, rfl, (by rw [List.map_nil, List.nil_append, List.length_cons, List.length_replicate]), Nat.zero_le _, by decide, hb5, hs⟩⟩
 refine aZ ok_34 rfl rfl (p_appendPack hG hsl (by simp) hMsg (fun i hi => ⟨hQ i hi, (hm.ask _ (List.getElem_mem hi)).2⟩) hA hU hD hm.nq hm.na hm.nu hm.nd hm.id hm.op hm.code) rfl (fun v6 w HF => ?_)
 obtain ⟨mv, e, k, rA, rU, rD, rfl, he, hr⟩ := HF
 refine dO rfl rfl rfl (dO rfl rfl rfl (dN rfl rfl (dN rfl rfl (aH (aV ⟨_, fX rfl rfl, ⟨mv, e, k, rA, rU, rD, rfl, he, ?_⟩⟩)))))
 rcases hr with ⟨o, h1, h2, h3⟩ | h3
 exact .inl ⟨o, h1, h2, by simpa using h3⟩
 exact .inr h3
end
section
variable {A : Nat → Addr} {V : Vw} {w0 : World} {m : PMess} {va v1 v2 v3 : Value}
set_option maxHeartbeats 4000000 in
theorem p_Pack (hG : Gl A V) (hV : V.In w0) (hQ : RAsks V va m.asks) (hA : RRecs V v1 m.answers) (hU : RRecs V v2 m.authorities) (hD : RRecs V v3 m.additionals) (hm : MOk m) :
  eC Tryz.prog 6 #[.agg (fJ m.head ++ [va, v1, v2, v3]).toArray] w0 fun v w' => ∃ (V' : Vw) (x : Value) (ok : Bool) (o : List UInt8), v = .tuple #[x, .bool ok] ∧ St ⟨w0, V, V'⟩ w' [] ∧ RB V' x o ∧
   ((ok = true ∧ packM m = some o) ∨ (ok = false ∧ o = [] ∧ packM m = none)) := by
 obtain ⟨a1, c1, rfl⟩ := hA.form
 obtain ⟨a2, c2, rfl⟩ := hU.form
 obtain ⟨a3, c3, rfl⟩ := hD.form
 obtain ⟨a, cap, rfl⟩ : ∃ a c, va = .slice a m.asks.length c := by
  obtain ⟨xs, hS, _⟩ := hQ
  obtain ⟨a, c, h1, _⟩ := hS.form
  exact ⟨a, c, h1⟩
 have hs := St.start hV
 refine aT [_] Tryz.func6 Tryz.ntmps6 Tryz.results6 rfl rfl (dP (aJ (cR hs rfl rfl rfl (fun b1 w hb1 hbe1 hs => dN rfl rfl (dN rfl rfl (aH (dP (lp (aO rfl (aP k_36 (hs.g 0 rfl) rfl)) rfl (aZ ok_14 rfl rfl (p_messageOf hs.isIn hQ hA hU hD hm) rfl (fun v8 w HF => ?_))))))))))
 obtain ⟨V1, bq, cq, ba, ca, bu, cu, bd, cd, rsA, rsU, rsD, rfl, hcq, hsA, hsU, hsD, hba, hbu, hbd, hc⟩ := HF
 have hbA := Nat.le_trans hs.size hba
 have hbU := Nat.le_trans hs.size hbu
 have hbD := Nat.le_trans hs.size hbd
 have hle1 := hc.view
 replace hs := hs.frameL hc (fun x hx => by simp at hx; rcases hx with rfl | rfl | rfl <;> assumption)
 refine aJ (aX hs z_54 rfl (fun b4 w hb4 he4 hs => aJ (dR 0 hs k_54 rfl rfl rfl rfl rfl (aG rfl) rfl (fun w hs => ?_))))
 obtain ⟨V2, hle2, hv4, hs⟩ := St.give hs hb4
 refine aH (dP (aZ ok_15 rfl rfl (p_MPack (hG.mono hs.view) (hs.perm perm3) (fG.view (fun j u hu => by rw [Nat.zero_add]; exact Vw.cell_of hv4 hu)) (fun i hi => fG.view (fun j u hu => Vw.cell_le hle2 (hcq i hi j u hu))) (hsA.mono hle2) (hsU.mono hle2) (hsD.mono hle2) hm) rfl (fun v10 w HF => ?_)))
 obtain ⟨mv, e, k, rA, rU, rD, rfl, he, hr⟩ := HF
 refine dM rfl rfl (dO rfl rfl rfl (dO rfl rfl rfl (dN rfl rfl (dN rfl rfl (aH (aF (dP (dM rfl rfl (lp (bB he rfl) rfl (aH (bH rfl (fun hc0 => ?_) (fun hc0 => ?_))))))))))))
 obtain ⟨_, hno, hs⟩ := hr.resolve_left (fun ⟨_, h, _⟩ => hc0 h)
 refine dP (aJ (fP es_23 hs rfl (fun b15 w hb15 he15 hs => dN rfl rfl (dN rfl rfl (aH (aV ⟨_, fX rfl rfl, ?_⟩))))))
 exact ⟨V2, _, false, [], rfl, ((((hs.drop hb15).drop hbA).drop hbU).drop hbD).drop hb1, ⟨rfl, .inr ⟨b15, 0, 0, rfl, Nat.le_refl _, fun j u hu => by simp at hu⟩⟩, .inr ⟨rfl, rfl, hno⟩⟩
 obtain ⟨o, _, hsome, hs⟩ := hr.resolve_right (fun h => hc0 (by rw [h.1]; decide))
 refine aW (dP (dM rfl rfl (dN rfl rfl (dN rfl rfl (aH (aV ⟨_, fX rfl rfl, ?_⟩))))))
 obtain ⟨V3, hle3, hsv, hs⟩ := hs.give
 exact ⟨V3, mv, true, o, rfl, (((hs.drop hbA).drop hbU).drop hbD).drop hb1, hsv, .inl ⟨rfl, hsome⟩⟩
end
end Go.Proofs.YtgpfjlfkaoffeaaGreatDoor
namespace Go.Proofs.YtgpfjlfkaoffeaaGreatDoor
open Go
theorem PR.zero1 (l : List UInt8) (mv : Value) : PR l mv {} (parC (.slice none 0 0) 0 0 0 0 0 0 {}) := ⟨_, _, _, _, _, _, _, rfl, ⟨.inr rfl, by decide, by decide, by decide⟩, fun h => absurd h (by decide)⟩
section
variable {A : Nat → Addr} {V : Vw} {w0 : World} {l : List UInt8} {mv : Value}
set_option maxHeartbeats 4000000 in
theorem c_parse1 (hG : Gl A V) (hV : V.In w0) (hb : RB V mv l) (h2l : l.length ≤ 4294967296) (h12 : 12 ≤ l.length) {stv : Value} (hst : SlV V 1 stv 1 [.int .i64 1]) :
  eC Tryz.prog 16 #[mv, stv] w0 fun v w' => ∃ (V' : Vw) (xs : List Value), St ⟨w0, V, V'⟩ w' [] ∧ SlV V' 13 v 1 xs := by
 obtain ⟨a, cap, rfl, _, ha⟩ := hst.form
 obtain ⟨b, p, rfl, hc⟩ := ha (by decide)
 have hs := St.start hV
 refine aT [_, _] Tryz.func16 Tryz.ntmps16 Tryz.results16 rfl rfl (dP (dN rfl rfl (aH (dP (lp (bM (vs := []) (ps := []) rfl bz_100) rfl (aJ (aX hs z_100 rfl (fun b5 w hb5 he5 hs => aJ (dR 0 hs k_100 rfl rfl rfl (by simp) (by simp) (aG (by decide +kernel)) rfl (fun w hs => aH (dP (lp (aO rfl (aP k_100 (hs.g 0 rfl) (by simp))) rfl (aJ (aX hs z_100 rfl (fun b6 w hb6 he6 hs => aJ (dR 0 hs k_100 rfl rfl rfl (by simp) (by simp) (aG (by decide +kernel)) rfl (fun w hs => ?_)))))))))))))))))
 obtain ⟨ks, cs, hp, hs⟩ : ∃ ks cs : List Value, PR l mv {} cs ∧ St ⟨w0, V, V⟩ w [(b6, .cells ks.toArray 100 (0, 0)), (b5, .cells cs.toArray 100 (0, 0))] := ⟨_, _, PR.zero1 l mv, hs⟩
 refine aH (dP (aJ (fP es_60 hs rfl (fun b15 w hb15 he15 hs => ?_))))
 have hsl : Sl 81 13 ⟨w0, V, V⟩ w [(b6, .cells ks.toArray 100 (0, 0)), (b5, .cells cs.toArray 100 (0, 0))] (.slice (some ⟨b15, 0, none⟩) 0 0) 0 [] := ⟨rfl, .inr ⟨b15, 0, [], rfl, rfl, by omega, by decide, hb15, hs⟩⟩
 refine dN rfl rfl (aH (aF (dP (dM rfl rfl (lp (bC Tryz.underlying62 rfl) rfl (dM rfl rfl (aH (bQ (dC (fun g : Nat × List Value × List Value × Value => eH (eH (eH (eH (eH (eH (eH emp 18 (.int .i64 g.1)) 17 (.int .i64 (1 : Nat))) 16 (.slice (some ⟨b, p, none⟩) 1 cap)) 7 g.2.2.2) 6 (.pointer (some ⟨b6, 0, none⟩))) 5 (.pointer (some ⟨b5, 0, none⟩))) 0 mv) (fun g w' => Sl 81 13 ⟨w0, V, V⟩ w' [(b6, .cells ks.toArray 100 (0, 0)), (b5, .cells g.2.1.toArray 100 (0, 0))] g.2.2.2 g.1 g.2.2.1 ∧ g.1 ≤ 1 ∧ (g.1 = 0 → PR l mv {} g.2.1)) (fun g => 1 - g.1) (0, cs, [], .slice (some ⟨b15, 0, none⟩) 0 0) (aL rfl (aL rfl (aL rfl (aL rfl (aL rfl (aL rfl (aL rfl (bG _)))))))) ⟨hsl, Nat.zero_le _, fun _ => hp⟩ ?_)))))))))
 clear hsl hs hp
 rintro ⟨j, cs, ys, sv⟩ w ⟨hsl, hj, hp⟩
 simp only at hsl hj hp ⊢
 refine dP (lp (cY rfl rfl) rfl (aH (aF (bH rfl (fun hc0 => ?_) (fun hc0 => ?_)))))
 have hj0 : j = 0 := by omega
 subst hj0
 replace hp := hp rfl
 obtain ⟨X, hX, hs⟩ := hsl.open
 refine aW (aF (bQ (dP (lp (eZ 0 p es_62 rfl rfl rfl (by decide) rfl) rfl (lp (aO rfl (bR (v := .int .i64 1) cH (Vw.cell_in hs.isIn (hc 0 _ rfl)))) rfl (dN rfl rfl (aH (dP (lp (bM (vs := []) (ps := []) rfl bz_81) rfl (aJ (aX hs z_81 rfl (fun b10 w hb10 he10 hs => aJ (dR 0 hs k_81 rfl rfl rfl (by simp) (by simp) (aG (by decide +kernel)) rfl (fun w hs => aH (aF ?_)))))))))))))))
 refine bQ (dP (dM rfl rfl (lp (bI rfl rfl) rfl (dN rfl rfl (aH (cO rfl ((decide_eq_true rfl)) (dP (dM rfl rfl (aZ ok_35 rfl rfl (c_start hG hs.isIn hb (hs.g 2 rfl) (hs.off (k := 2) rfl) hp (wf_init l) h2l) rfl (fun v29 w HF => ?_))))))))))
 obtain ⟨cs', hcs, e, k, m', rfl, hc2, hp, he, hhl, hhf, hr⟩ := HF
 replace hs := hs.frame1 (k := 2) rfl rfl hc2
 obtain ⟨_, rfl, rfl, rfl⟩ := hr.resolve_right (fun h => by omega)
 refine dM rfl rfl (dO rfl rfl rfl (dO rfl rfl rfl (aJ (aX hs z_50 rfl (fun b11 w hb11 he11 hs => aJ (dR 0 hs k_50 rfl rfl rfl hhl rfl hhf rfl (fun w hs => dN rfl rfl (aH (dP (dM rfl rfl (aZ ok_36 rfl rfl (c_faultOf hG hs.isIn he) rfl (fun v33 w HF => ?_))))))))))))
 obtain ⟨rfl, hc2⟩ := HF
 replace hs := hs.frame hc2
 refine lp (bL rfl (by rfl) (bu_81_0 _)) rfl (aJ (dR 1 hs k_81 rfl rfl rfl (by simp) (by simp) (aG (by decide +kernel)) rfl (fun w hs => aH (dP (dM rfl rfl (lp (po_err_eq_nil he rfl) rfl (aH (cO rfl ((decide_eq_true rfl)) (aB (lp (aO rfl (aP k_50 (hs.g 0 rfl) rfl)) rfl (aZ ok_18 rfl rfl (c_headOf hs.isIn (w16 l 0) (w16 l 2)) rfl (fun v38 w HF => ?_))))))))))))
 obtain ⟨rfl, hc3⟩ := HF
 replace hs := hs.frame hc3
 refine lp (aR fo_81_1 rfl) rfl (aJ (o_storeA (k := 1) (p := 1) hs bZ rfl rfl rfl rfl (by decide) (flat_headC _ _) rfl (fun w hs => aH (aB (dM rfl rfl (lp (aO rfl (aP k_81 (hs.g 1 rfl) rfl)) rfl (l_app1 (cl := _) el_60 (SlX.close (L := [_, _, _]) hX (hs.drop hb11)) (fun _ => rfl) rfl rfl rfl (bX rfl (fD (flat_headC (w16 l 0) (w16 l 2)) (aG rfl))) (by omega) (by omega) (by omega) rfl rfl (fun b16 sv' w hs => ?_))))))))
 replace hs := hs.drop hb10
 skip
 refine dN rfl rfl (aH (aB (lp (bN rfl rfl (fV (c := 1) (by omega) (by omega))) rfl (dM rfl rfl (aH ?_)))))
 exact ⟨(1, cs', _, sv'), aL rfl (aL rfl (aL rfl (aL rfl (aL rfl (aL rfl (aL rfl (bG _))))))), ⟨hs, Nat.le_refl _, fun h => by cases h⟩, by simp only; omega⟩
 have hj1 : j = 1 := by omega
 subst hj1
 refine eT (aF ?_)
 obtain ⟨V', hle', hsv, hs⟩ := hsl.give
 refine aB (dM rfl rfl (dN rfl rfl (aH (aV ⟨_, fW rfl, ?_⟩))))
 exact ⟨V', _, (hs.drop hb6).drop hb5, hsv⟩
end
end Go.Proofs.YtgpfjlfkaoffeaaGreatDoor
namespace Go.Proofs.YtgpfjlfkaoffeaaGreatDoor
open Go
def LawQ (V : Vw) (w0 : World) (v : Value) (w' : World) : Prop := v = .bool true ∧ ∃ V', St ⟨w0, V, V'⟩ w' []
def pk12 : List UInt8 := [0, 7, 0, 0, 0, 0, 0, 0, 0, 0, 0, 0]
theorem pack12 : packM { head := { id := 7 } } = some pk12 := by kernel_rfl
theorem unpack12 : unpackM pk12 = some { id := 7 } := by
 rw [unpackM_eq]; kernel_rfl
theorem mok7 : MOk { head := { id := 7 } } :=
 ⟨Nat.zero_le _, Nat.zero_le _, Nat.zero_le _, Nat.zero_le _, (fun _ h => by cases h), (fun _ h => by cases h), (fun _ h => by cases h), (fun _ h => by cases h), (by decide), (by decide), (by decide)⟩
section
variable {A : Nat → Addr} {V : Vw} {w0 : World}
set_option maxHeartbeats 2000000 in
theorem c_packs (hG : Gl A V) (hV : V.In w0) : eC Tryz.prog 7 #[] w0 fun v w' => v = .bool true ∧ ∃ V', St ⟨w0, V, V'⟩ w' [] := by
 have hs := St.start hV
 have hg : true = true := rfl
 refine aT [] Tryz.func7 Tryz.ntmps7 Tryz.results7 rfl rfl (dP (dN rfl rfl (aH (dP (lp (bL rfl (by rfl) (bu_33_0 _)) rfl (lp (po_buildL (cls := [fJ { id := 7 }]) rfl rfl (bg_36_0 _ _ _ _ _ _ _ _ _ _)) rfl (aZ ok_6 rfl rfl (p_Pack (m := { head := { id := 7 } }) (hG.mono hs.view) hs.isIn (RAsks.nil _) (RRecs.nil _) (RRecs.nil _) (RRecs.nil _) mok7) rfl (fun v8 w HF => ?_))))))))
 obtain ⟨V1, x, ok0, o, rfl, hc, hx, hr⟩ := HF
 replace hs := hs.frame hc
 obtain ⟨rfl, rfl⟩ : ok0 = true ∧ o = pk12 := by
  rcases hr with ⟨h1, h2⟩ | ⟨_, _, h2⟩
  rw [pack12] at h2; cases h2; exact ⟨h1, rfl⟩
  rw [pack12] at h2; cases h2
 refine dM rfl rfl (dO rfl rfl rfl (dO rfl rfl rfl (dN rfl rfl (dN rfl rfl (aH (dP (dM rfl rfl (aZ ok_8 rfl rfl (c_unpack (hG.mono hs.view) hs.isIn hx (by decide)) rfl (fun v13 w HF => ?_)))))))))
 obtain ⟨V2, mcs, ok, y, rfl, hc, hRM, hun⟩ := HF
 replace hs := hs.frame hc
 have hle2 := hc.view
 obtain ⟨rfl, rfl⟩ : ok = true ∧ y = { id := 7 } := by
  rcases hun with ⟨h1, h2⟩ | ⟨_, h2, _⟩
  rw [unpack12] at h2; cases h2; exact ⟨h1, rfl⟩
  rw [unpack12] at h2; cases h2
 refine dM rfl rfl (dO rfl rfl rfl (dO rfl rfl rfl (aJ (aX hs z_36 rfl (fun b3 w hb3 he3 hs => aJ (dR 0 hs k_36 rfl rfl rfl hRM.flat.2 rfl hRM.flat.1 rfl (fun w hs => dN rfl rfl (aH (aF ?_)))))))))
 skip
 obtain ⟨q0, q1, q2, q3, rfl, _⟩ := hRM
 refine aB (dM rfl rfl (dM rfl rfl (lg rfl rfl hg (aC rfl) rfl (lp (bO rfl rfl rfl) rfl (dM rfl rfl (lg rfl rfl hg (aR fo_36_0 rfl) rfl (lg rfl rfl hg (aR cV rfl) rfl (lg rfl rfl hg (aO rfl (bR (v := .int .u16 7) eS (by rw [cell_list (hs.g 0 rfl)]; rfl))) rfl (lg rfl rfl hg (po_eqi rfl rfl) rfl (lp (bO rfl rfl rfl) rfl (dM rfl rfl (lg rfl rfl hg (aC rfl) rfl (cX rfl rfl hg (o_bslice (vls := [[.int .i64 1]]) el_62 hs rfl rfl rfl rfl (by simp) (by decide) (by decide) rfl (fun b28 w hb28 he28 hs => ?_)))))))))))))))
 obtain ⟨V3, hle3, hv28, hs⟩ := St.give hs hb28
 have hst : SlV V3 1 (.slice (some ⟨b28, 0, none⟩) 1 1) 1 [.int .i64 1] := SlV.cells (sp := []) hv28 rfl (by decide)
 refine cX rfl rfl hg (cF (cD rfl rfl ok_16 (c_parse1 (hG.mono hs.view) hs.isIn (hx.mono (Vw.le_trans hle2 hle3)) (by decide) (by decide) hst)) rfl (fun v29 w HF => ?_))
 obtain ⟨V4, xs, hc, hS⟩ := HF
 obtain ⟨a1, c1, rfl, _⟩ := hS.form
 replace hs := hs.frame hc
 refine lg rfl rfl hg (bC Tryz.underlying60 rfl) rfl (lg rfl rfl hg (po_eqi rfl rfl) rfl (lp (bO rfl rfl rfl) rfl (dN rfl rfl (aH (aV ⟨_, fW rfl, ?_⟩)))))
 exact ⟨rfl, _, hs.drop hb3⟩
end
end Go.Proofs.YtgpfjlfkaoffeaaGreatDoor
namespace Go.Proofs.YtgpfjlfkaoffeaaGreatDoor
open Go
def macC (bv : Value) (k1 k2 k3 k4 : Nat) (m : PM) (h : fY) : List Value :=
 [bv, .int .i64 k1, .int .i64 k2, .int .i64 k3, .int .i64 k4, .int .i64 ((m.sec : Int) - 1), .int .i64 m.index, .int .i64 m.at_, .bool m.valid, .int .i64 m.headAt,
  fR h.name, .int .u16 m.htype, .int .u16 h.cls, .int .u32 h.ttl, .int .u16 m.hlen, .int .i64 h.kind, .slice none 0 0, fR h.host, fR h.box, .int .u32 h.n1, .int .u32 h.n2, .int .u32 h.n3, .int .u32 h.n4, .int .u32 h.n5, .slice none 0 0, .slice none 0 0]
def MR (l : List UInt8) (mv : Value) (m : PM) (cs : List Value) : Prop :=
 ∃ bv k1 k2 k3 k4 h, cs = macC bv k1 k2 k3 k4 m h ∧ bv.oneCell' = true ∧ (1 ≤ m.sec → bv = mv ∧ k1 = count l 1 ∧ k2 = count l 2 ∧ k3 = count l 3 ∧ k4 = count l 4)
theorem MR.mk {l : List UInt8} {mv : Value} {m : PM} {cs : List Value} (h : fY) (hb : mv.oneCell' = true) (hc : cs = macC mv (count l 1) (count l 2) (count l 3) (count l 4) m h) : MR l mv m cs :=
 ⟨mv, _, _, _, _, h, hc, hb, fun _ => ⟨rfl, rfl, rfl, rfl, rfl⟩⟩
theorem MR.get {l : List UInt8} {mv : Value} {m : PM} {cs : List Value} (h : MR l mv m cs) (hs : 1 ≤ m.sec) : ∃ r, cs = macC mv (count l 1) (count l 2) (count l 3) (count l 4) m r := by
 obtain ⟨bv, k1, k2, k3, k4, r, h1, _, h3⟩ := h
 obtain ⟨rfl, rfl, rfl, rfl, rfl⟩ := h3 hs
 exact ⟨r, h1⟩
theorem MR.len {l : List UInt8} {mv : Value} {m : PM} {cs : List Value} (h : MR l mv m cs) : cs.length = 26 ∧ Flat cs := by
 obtain ⟨bv, k1, k2, k3, k4, r, rfl, hb, _⟩ := h
 refine ⟨rfl, aG ?_⟩
 unfold macC
 simp only [List.all_cons, List.all_nil, hb]
 rfl
end Go.Proofs.YtgpfjlfkaoffeaaGreatDoor

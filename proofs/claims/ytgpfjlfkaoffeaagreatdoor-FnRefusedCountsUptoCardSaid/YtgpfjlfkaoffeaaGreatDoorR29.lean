/- The reference's packing: records. The reference's packing: a map literal of bits, ranged over in any order. -/
import Derived.Test.YtgpfjlfkaoffeaaGreatDoorR28
import Derived.Test.YtgpfjlfkaoffeaaGreatDoorR18
import Derived.Test.YtgpfjlfkaoffeaaGreatDoorR26
import Derived.Test.YtgpfjlfkaoffeaaGreatDoorR25
import Derived.Maps.RangeRun
set_option linter.all false
namespace Go.Proofs.YtgpfjlfkaoffeaaGreatDoor
open Go
theorem set2_bytes : ∀ (i : Nat) (l : List UInt8) (a b : UInt8), i + 2 ≤ l.length → (l.set i a).set (i + 1) b = l.take i ++ [a, b] ++ l.drop (i + 2)
 | 0, [], _, _, h => by simp at h
 | 0, [_], _, _, h => by simp at h
 | 0, _ :: _ :: _, _, _, _ => rfl
 | i + 1, [], _, _, h => by simp at h
 | i + 1, x :: l, a, b, h => by
  have := set2_bytes i l a b (by simpa using h)
  simp only [List.set_cons_succ, List.take_succ_cons, List.drop_succ_cons, List.cons_append, this]
theorem setAt2 {l : List UInt8} {i : Nat} {a b : UInt8} {sp : List Value} (h : i + 2 ≤ l.length) : ((l.map eA ++ sp).set i (eA a)).set (i + 1) (eA b) = (setAt l i [a, b]).map eA ++ sp := by
 rw [List.set_append_left _ _ (by simp; omega), ← List.map_set, List.set_append_left _ _ (by simp; omega), ← List.map_set, set2_bytes i l a b h]
 rfl
theorem recP_name {r : fY} {w : Ink} (h : nameP true (eN r.name) w = none) : recP r w = none := by unfold recP; rw [h]; rfl
theorem recP_body {r : fY} {w w1 : Ink} (h : nameP true (eN r.name) w = some w1) (h2 : fT r (w1.put (be2 (eG r) ++ be2 r.cls ++ be4 r.ttl ++ be2 0)) = none) : recP r w = none := by
 unfold recP; rw [h, Option.bind_some, h2]; rfl
theorem recP_len {r : fY} {w w1 w2 : Ink} (h : nameP true (eN r.name) w = some w1) (h2 : fT r (w1.put (be2 (eG r) ++ be2 r.cls ++ be4 r.ttl ++ be2 0)) = some w2) :
  recP r w = if 65535 < w2.out.length - (w1.out.length + 10) then none else some { w2 with out := setAt w2.out (w1.out.length + 8) (be2 (w2.out.length - (w1.out.length + 10))) } := by
 unfold recP; rw [h, Option.bind_some, h2, Option.bind_some]
theorem bodyP_growS {r : fY} (hf : FitS r) {w w2 : Ink} (h : fT r w = some w2) : w2.out.length ≤ w.out.length + 274877906944 := by
 have hn := eL r.host
 have hb := eL r.box
 have h1 := hf.data
 have h2 := hf.texts
 have h3 := hf.pairs
 have hp := padTo_len r.data
 unfold fT at h
 split at h
 cases h; simp only [Ink.put, List.length_append, hp]; omega
 cases h; simp only [Ink.put, List.length_append, hp]; omega
 have := eW h; omega
 have := eW h; omega
 have := eW h; omega
 have := eW h; simp only [Ink.put, List.length_append, eP] at this; omega
 have := eW h; simp only [Ink.put, List.length_append, eP] at this; omega
 obtain ⟨w3, h4, rfl⟩ := Option.map_eq_some_iff.1 h
 obtain ⟨w4, h5, h6⟩ := Option.bind_eq_some_iff.1 h4
 have e1 := eW h5
 have e2 := eW h6
 simp only [Ink.put, List.length_append, be4_len]; omega
 split at h
 cases h
 cases h; simp only [Ink.put, List.length_append]; omega
 cases h; simp only [Ink.put, List.length_append]; omega
 obtain ⟨w3, h4, h5⟩ := Option.bind_eq_some_iff.1 h
 have e1 := eW h4
 simp only [Ink.put, List.length_append, eP] at e1
 split at h5
 cases h5
 cases h5; simp only [Ink.put, List.length_append]; omega
 obtain ⟨w3, h4, h5⟩ := Option.bind_eq_some_iff.1 h
 have e1 := eW h4
 simp only [Ink.put, List.length_append, eP] at e1
 split at h5
 cases h5
 cases h5; simp only [Ink.put, List.length_append]; omega
 cases h; simp only [Ink.put, List.length_append]; omega
 cases h
theorem InkOk.setAt {x : Ink} (h : InkOk x) {i : Nat} {b : List UInt8} (hi : i + b.length ≤ x.out.length) : InkOk { x with out := setAt x.out i b } := ⟨h.pl, by rw [setAt_len hi]; exact h.few⟩
section
variable {V V0 : Vw} {w w00 : World} {L : List (Nat × Obj)} {wb : Nat} {x : Ink} {l : List fY} {lv : Value}
set_option maxHeartbeats 8000000 in
theorem n_records (hI : fZ ⟨w00, V0, V⟩ w L wb x) (hx : x.out.length ≤ 34359738368) (hR : RRecsK V lv l) (hf : ∀ r ∈ l, FitS r) (hn : l.length ≤ 65535) :
  eC Tryz.prog 27 #[.pointer (some ⟨wb, 0, none⟩), lv] w fun v w' => ∃ (ok : Bool) (x' : Ink), v = .bool ok ∧ fZ ⟨w00, V0, V⟩ w' L wb x' ∧ ((ok = true ∧ recsP l x = some x') ∨ (ok = false ∧ recsP l x = none)) := by
 obtain ⟨xs, hS, hRw⟩ := hR
 obtain ⟨a, cap, rfl, _, hc⟩ := hS.form
 refine aT [_, _] Tryz.func27 Tryz.ntmps27 Tryz.results27 rfl rfl (dP (dN rfl rfl (aH (aF (dP (dM rfl rfl (lp (bC Tryz.underlying31 rfl) rfl (dM rfl rfl (aH (bQ (dC (fun g : Nat × Ink => eH (eH (eH (eH emp 11 (.int .i64 g.1)) 10 (.int .i64 l.length)) 9 (.slice a l.length cap)) 0 (.pointer (some ⟨wb, 0, none⟩))) (fun g w => fZ ⟨w00, V0, V⟩ w L wb g.2 ∧ g.1 ≤ l.length ∧ recsP (l.drop g.1) g.2 = recsP l x ∧ g.2.out.length ≤ x.out.length + g.1 * 66100) (fun g => l.length - g.1) (0, x) (aL rfl (aL rfl (aL rfl (aL rfl (bG _))))) ⟨hI, Nat.zero_le _, rfl, by simp only; omega⟩ ?_)))))))))))
 clear hI
 rintro ⟨j, y⟩ w ⟨hI, hj, hgo, hyl⟩
 simp only at hI hj hgo hyl ⊢
 refine dP (lp (cY rfl rfl) rfl (aH (aF (bH rfl (fun hc0 => ?_) (fun hc0 => ?_)))))
 have hjl : j < l.length := by omega
 obtain ⟨b, p, rfl, hcells⟩ := hc (by omega)
 obtain ⟨cr, ⟨k, vd, vt, vp, rfl, hkd, hD, hT, hP⟩, hcl, hctt⟩ := hRw.at (List.getElem?_eq_getElem hjl)
 have hfs := hf _ (List.getElem_mem hjl)
 have hstep : recsP l x = (recP l[j] y).bind (recsP (l.drop (j + 1))) := by rw [← hgo, recsP_step hjl]
 have hflat := (RRecK.flat (V := V) ⟨k, vd, vt, vp, rfl, hkd, hD, hT, hP⟩).1
 obtain ⟨hok, Y, hY, hs⟩ := hI
 refine aW (aF (bQ (dP (lp (eZ j (p + j * 16) es_31 rfl rfl rfl hjl rfl) rfl ?_))))
 refine lp (aO rfl (ld_cells (l := recK l[j] k vd vt vp) eJ rfl (fun i u hu => by
  rw [Nat.add_assoc]
  exact Vw.cell_in hs.isIn (hcells _ _ (fN hctt hu))))) rfl ?_
 refine aJ (aX hs z_30 rfl (fun b6 w hb6 he6 hs => aJ (dR 0 hs eJ rfl rfl rfl rfl rfl hflat rfl (fun w hs => ?_))))
 have hI := hY.close (L := (b6, _) :: L) hok hs
 clear hs hY hok
 refine aH (aF (dP (dM rfl rfl (lp (aR fo_30_0 rfl) rfl (lp (aO rfl (aQ k_9 (hI.get (k := 0) rfl) rfl)) rfl (aZ ok_26 rfl rfl (n_fit hI.isIn l[j].name) rfl (fun v18 w HF => ?_)))))))
 obtain ⟨rfl, hcc⟩ := HF
 replace hI := hI.frame hcc
 refine aZ ok_25 rfl rfl (n_name (short := true) hI (by omega) (eL _)) rfl (fun v19 w HF => ?_)
 obtain ⟨ok, y1, rfl, hI, hr1⟩ := HF
 refine lp (cS rfl) rfl (aH (bJ rfl (fun hc1 => ?_) (fun hc1 => ?_)))
 obtain rfl : ok = false := by simpa using hc1
 have hn1 := (hr1.resolve_left (fun h => by cases h.1)).2
 refine dP (dN rfl rfl (aH (aV ⟨_, fW rfl, ?_⟩)))
 exact ⟨false, y1, rfl, hI.drop hb6, .inr ⟨rfl, by rw [hstep, recP_name hn1]; rfl⟩⟩
 obtain rfl : ok = true := by simpa using hc1
 have hn1 := (hr1.resolve_right (fun h => by cases h.1)).2
 have hl1 := eW hn1
 have hfl := eL l[j].name
 refine aW (dP (dM rfl rfl (lp (aO rfl (aP eJ (hI.get (k := 0) rfl) rfl)) rfl (aZ ok_50 rfl rfl (n_TypeOf hI.isIn hkd) rfl (fun v23 w HF => ?_)))))
 obtain ⟨rfl, hcc⟩ := HF
 replace hI := hI.frame hcc
 refine aZ ok_24 rfl rfl (n_put2 hI (by omega) (eG l[j])) rfl (fun v24 w HF => ?_)
 obtain _ := HF
 replace hI := HF
 refine aH (dP (dM rfl rfl (lp (aR fo_30_2 rfl) rfl (lp (aO rfl (aQ eS (hI.get (k := 0) rfl) rfl)) rfl (aZ ok_24 rfl rfl (n_put2 hI (by simp only [fM, eP]; omega) l[j].cls) rfl (fun v28 w HF => ?_))))))
 obtain _ := HF
 replace hI := HF
 refine aH (dP (dM rfl rfl (lp (aR fo_30_3 rfl) rfl (lp (aO rfl (aQ cB (hI.get (k := 0) rfl) rfl)) rfl (aZ ok_51 rfl rfl (n_put4 hI (by simp only [fM, eP]; omega) l[j].ttl) rfl (fun v32 w HF => ?_))))))
 obtain _ := HF
 replace hI := HF
 refine aH (aF ?_)
 obtain ⟨hok, vb, vn, va, X, hX, hsl⟩ := hI.sl
 obtain ⟨ab, cb, rfl⟩ := hsl.size
 refine aB (dM rfl rfl (lp (aN rfl) rfl (lp (aR fo_74_0 rfl) rfl (lp (aO rfl (aQ k_23 (hsl.st.get (k := 0) rfl) rfl)) rfl (lp (bC Tryz.underlying23 rfl) rfl (dN rfl rfl (aH (aF ?_))))))))
 clear hsl hX
 refine aB (dM rfl rfl (aZ ok_24 rfl rfl (n_put2 hI (by simp only [fM, eP, be4_len]; omega) 0) rfl (fun v39 w HF => ?_)))
 obtain _ := HF
 rw [gA, gA, gA] at HF
 replace hI := HF
 refine aH (aF (dP (dM rfl rfl (lp (aO rfl (aP eJ (hI.get (k := 0) rfl) rfl)) rfl (aZ ok_52 rfl rfl (n_body hI (by simp only [fM, List.length_append, eP, be4_len]; omega) hkd hD hT hP hfs) rfl (fun v42 w HF => ?_))))))
 obtain ⟨ok, y2, rfl, hI, hr2⟩ := HF
 refine lp (cS rfl) rfl (aH (bJ rfl (fun hc2 => ?_) (fun hc2 => ?_)))
 obtain rfl : ok = false := by simpa using hc2
 have hn2 := (hr2.resolve_left (fun h => by cases h.1)).2
 refine dP (dN rfl rfl (aH (aV ⟨_, fW rfl, ?_⟩)))
 exact ⟨false, y2, rfl, hI.drop hb6, .inr ⟨rfl, by rw [hstep, recP_body hn1 hn2]; rfl⟩⟩
 obtain rfl : ok = true := by simpa using hc2
 have hn2 := (hr2.resolve_right (fun h => by cases h.1)).2
 have hl2 := bodyP_len hn2
 have hrl := recP_len hn1 hn2
 simp only [fM, List.length_append, eP, be4_len] at hl2
 refine aW (aF ?_)
 have hl2b : y2.out.length ≤ 1099511627776 := by
  have q := bodyP_growS hfs hn2
  simp only [fM, List.length_append, eP, be4_len] at q
  omega
 have hI0 := hI
 obtain ⟨hok2, vb, vn, va, X, hX, hsl⟩ := hI.sl
 obtain ⟨g, cg, sp, rfl, hcl2, hnc, hcm, hg, hs⟩ := hsl.2.resolve_left (fun h => by have := h.2.1; omega)
 refine aB (dM rfl rfl (lp (aN rfl) rfl (lp (aR fo_74_0 rfl) rfl (lp (aO rfl (aQ k_23 (hs.g 1 rfl) rfl)) rfl (lp (bC Tryz.underlying23 rfl) rfl (dM rfl rfl (lp (po_sub rfl rfl (fV (c := y2.out.length - (y1.out.length + 8)) (by simp only [fM, eP, be4_len]; omega) (by omega))) rfl (lp (po_sub rfl rfl (fV (c := y2.out.length - (y1.out.length + 10)) (by omega) (by omega))) rfl (dN rfl rfl (aH (aF (dP (dM rfl rfl ?_)))))))))))))
 refine lp (cQ rfl rfl) rfl (aH (bH rfl (fun hc3 => ?_) (fun hc3 => ?_)))
 have hlong : 65535 < y2.out.length - (y1.out.length + 10) := by omega
 refine dP (dN rfl rfl (aH (aV ⟨_, fW rfl, ?_⟩)))
 exact ⟨false, y2, rfl, hI0.drop hb6, .inr ⟨rfl, by rw [hstep, hrl, if_pos hlong]; rfl⟩⟩
 have hshort : ¬ 65535 < y2.out.length - (y1.out.length + 10) := by omega
 rw [if_neg hshort] at hrl
 refine aW (e_draw (fun w2 => w2.heap[wb]? = some (.cells [Value.slice (some ⟨g, 0, none⟩) y2.out.length cg, vn, va].toArray 74 (0, 0))) [3, 8] mixed (fun w hw => ?_))
 replace hs := hw.st hs
 refine dI 0 rfl (fun w => aC rfl) rfl rfl (dI 1 rfl (fun w => aN rfl) rfl rfl (dI 2 rfl (fun w => aR fo_74_0 rfl) rfl rfl (dJ 3 rfl (hs.g 1 rfl) rfl (fun w hf => (aO rfl (aQ k_23 hf rfl))) rfl (dI 4 rfl (fun w => aC rfl) rfl rfl (dI 5 rfl (fun w => aC rfl) rfl rfl (dI 6 rfl (fun w => aN rfl) rfl rfl (dI 7 rfl (fun w => aR fo_74_0 rfl) rfl rfl (dJ 8 rfl (hs.g 1 rfl) rfl (fun w hf => (aO rfl (aQ k_23 hf rfl))) rfl (dI 9 rfl (fun w => aC rfl) rfl rfl (dI 10 rfl (fun w => (bN rfl rfl (fV (c := y1.out.length + 9) (by simp only [fM, eP, be4_len]; omega) (by omega)))) rfl rfl (dI 11 rfl (fun w => aC rfl) rfl rfl (dI 12 rfl (fun w => (po_shr (c := ((y2.out.length - (y1.out.length + 10)) / 256 : Nat)) rfl rfl (by decide) (i64sh8 (n := y2.out.length - (y1.out.length + 10))))) rfl rfl (dI 13 rfl (fun w => bY Tryz.underlying3 Tryz.underlying5 rfl u8lo) rfl rfl ?_)))))))))))))
 refine dI 14 rfl (fun w => aC rfl) rfl rfl (dI 15 rfl (fun w => bY Tryz.underlying3 Tryz.underlying5 rfl u8lo) rfl rfl (dI 16 rfl (fun w => (eZ (y1.out.length + 8) (y1.out.length + 8) es_23 rfl rfl (by simp only [fM, eP, be4_len]) (by omega) (by omega))) rfl rfl (dL 17 rfl (o_storeP (k := 0) hs k_5 rfl rfl rfl rfl rfl (by simp; omega) rfl rfl (fun w hs => ⟨fun _ => hs.g 1 rfl, dI 18 rfl (fun w => (eZ (y1.out.length + 8 + 1) (y1.out.length + 8 + 1) es_23 rfl rfl (by omega) (by omega) (by omega))) rfl rfl (dL 19 rfl (o_storeP (k := 0) hs k_5 rfl rfl rfl rfl rfl (by simp; omega) (setAt2 (l := y2.out) (a := UInt8.ofNat ((y2.out.length - (y1.out.length + 10)) / 256)) (b := UInt8.ofNat (y2.out.length - (y1.out.length + 10))) (by omega)) rfl (fun w hs => ⟨fun h => absurd h (by decide +kernel), bS (by decide +kernel) (aB (lp (bN rfl rfl (fV (c := j + 1) (by omega) (by omega))) rfl (dM rfl rfl (aH ?_))))⟩)))⟩)))))
 have hsl2 := setAt_len (l := y2.out) (b := be2 (y2.out.length - (y1.out.length + 10))) (i := y1.out.length + 8) (by rw [eP]; omega)
 have hI2 : fZ ⟨w00, V0, V⟩ w ((b6, _) :: L) wb ⟨setAt y2.out (y1.out.length + 8) (be2 (y2.out.length - (y1.out.length + 10))), y2.tbl⟩ := hX.close (L := (b6, _) :: L) (InkOk.setAt hok2 (by rw [eP]; omega)) (n := y2.out.length) ⟨by rw [List.length_map, hsl2, Nat.mul_one], .inr ⟨g, cg, sp, rfl, by rw [List.length_append, List.length_map, hsl2]; rw [List.length_append, List.length_map] at hcl2; exact hcl2, hnc, hcm, hg, hs⟩⟩
 have hgrow := recP_grow hrl
 simp only at hgrow
 exact ⟨(j + 1, ⟨setAt y2.out (y1.out.length + 8) (be2 (y2.out.length - (y1.out.length + 10))), y2.tbl⟩), aL rfl (aL rfl (aL rfl (aL rfl (bG _)))), ⟨hI2.drop hb6, hjl, by rw [hstep, hrl]; rfl, by simp only; omega⟩, by simp only; omega⟩
 have hjn : j = l.length := by omega
 subst hjn
 rw [List.drop_length] at hgo
 refine eT (dP (dN rfl rfl (aH (aV ⟨_, fW rfl, ?_⟩))))
 exact ⟨true, y, rfl, hI, .inl ⟨rfl, hgo.symm⟩⟩
end
end Go.Proofs.YtgpfjlfkaoffeaaGreatDoor
namespace Go.Proofs.YtgpfjlfkaoffeaaGreatDoor
open Go
def entB (t : Nat × Bool × Nat) : MapEntry := ⟨.int .i64 t.1, .bool t.2.1, t.2.2⟩
def mapB (T : List (Nat × Bool × Nat)) : Obj := .map (T.map entB).toArray T.length
theorem findNow_bits : ∀ (T : List (Nat × Bool × Nat)) (p i : Nat), (∀ t ∈ T, t.1 ≠ p) → Instr.findNow (.int .i64) (.int .i64 p) (T.map entB) i = some none
  | [], _, _, _ => rfl
  | t :: T, p, i, h => by
    have h0 : ((p : Int) == (t.1 : Int)) = false := by
      have := h t (List.mem_cons_self ..)
      simp; omega
    unfold List.map Instr.findNow
    simp only [entB, Instr.sameNow, if_true, h0]
    exact findNow_bits T p (i + 1) fun t ht => h t (List.mem_cons_of_mem _ ht)
section
variable {P : Program} {n : Nat} {ρ : Env} {w0 : Base} {w : World} {L : List (Nat × Obj)} {K : Env → World → Prop} {d : Tmp} {ty : TypeId} {pos : String} {af : Array Edge} {g : Option (Nat × Bool)}
theorem o_insertB {mt kt et : TypeId} {x y z : Operand} {b k p : Nat} {v : Bool} {T : List (Nat × Bool × Nat)} {L' : List (Nat × Obj)} (hm : P.underlying mt = some (.map kt et)) (hkt : P.underlying kt = some (.int .i64)) (hs : St w0 w L)
    (hx : ev ρ x = some (.map (some b))) (hy : ev ρ y = some (.int .i64 p)) (hz : ev ρ z = some (.bool v)) (hk : lget L k = some (b, mapB T)) (hn : ∀ t ∈ T, t.1 ≠ p) (hL : lset L k (b, mapB (T ++ [(p, v, T.length)])) = some L')
    (hK : ∀ w', St w0 w' L' → K ρ w') : OW P n ⟨none, .insert mt x y z, ty, pos, af, g⟩ K ρ w := by
  have hb := hs.get hk
  have hbm : (getObj b).run P w = .ok (.map (T.map entB).toArray T.length) w := MapKept.run_getObj_map hb
  have hck : ∀ e n, (Instr.checkKey e (n + 1) kt (.int .i64 p)).run P w = .ok () w := fun e n => MapKept.run_checkKey hkt (by simp [MapKept.IsKey]) e n
  have e : mapB (T ++ [(p, v, T.length)]) = .map ((T.map entB).toArray.push ⟨.int .i64 p, .bool v, T.length⟩) (T.length + 1) := by simp [mapB, entB]
  rw [e] at hL
  refine o_skip (F := fun w' => w' = { w with heap := w.heap.setIfInBounds b (.map ((T.map entB).toArray.push ⟨.int .i64 p, .bool v, T.length⟩) (T.length + 1)) }) ?_ ?_
  · intro o e ho he
    refine ⟨_, ?_, rfl⟩
    simp [execOp, ho, he _ _ hx, he _ _ hy, he _ _ hz, Instr.mapUpdate, run_underlying hm, hbm, hck, MapKept.run_findKey hkt (findNow_bits T p 0 hn), MapKept.run_setObj_map _ hb]
  · rintro w' rfl
    have hh := MapKept.heap_set (o' := .map ((T.map entB).toArray.push ⟨.int .i64 p, .bool v, T.length⟩) (T.length + 1)) hb
    exact hK _ (hs.put hk hL (unf_map _ _) rfl rfl rfl (by simp) hh.1 hh.2)
theorem o_range {mt kt et : TypeId} {x : Operand} {b k c : Nat} {es : Array MapEntry} (hm : P.underlying mt = some (.map kt et)) (hs : St w0 w L) (hx : ev ρ x = some (.map (some b))) (hk : lget L k = some (b, .map es c)) (hd : Nat.blt d n = true)
    (hK : ∀ r w', w0.heap.size ≤ r → St w0 w' ((r, .mapIter (some b) c #[] c) :: L) → K (eH ρ d (.pointer (some ⟨r, 0, none⟩))) w') : OW P n ⟨some d, .range mt x, ty, pos, af, g⟩ K ρ w := by
  have hbm : (getObj b).run P w = .ok (.map es c) w := MapKept.run_getObj_map (hs.get hk)
  refine o_val (F := fun v w' => v = .pointer (some ⟨w.heap.size, 0, none⟩) ∧ w' = w.alloc (.mapIter (some b) c #[] c)) ?_ hd ?_
  · intro o e ho he
    refine ⟨_, _, ?_, rfl, rfl⟩
    simp [execOp, ho, he _ _ hx, Instr.range, run_underlying hm, hbm, newObj, Sem.run, Result.andThen]
  · rintro v w' ⟨rfl, rfl⟩
    exact hK _ _ hs.size (hs.allocObj _ (unf_iter _ _ _ _))
theorem o_next {x : Operand} {r b kr kb since c0 clock : Nat} {seen : Array Nat} {es : Array MapEntry} (hs : St w0 w L) (hx : ev ρ x = some (.pointer (some ⟨r, 0, none⟩))) (hkr : lget L kr = some (r, .mapIter (some b) since seen c0)) (hkb : lget L kb = some (b, .map es clock))
    (hold : ∀ x ∈ es.toList, x.born < since) (hsc : since ≤ c0) (hd : Nat.blt d n = true) (h0 : (leftOf es seen).size = 0 → K (eH ρ d (.tuple #[.bool false])) w)
    (h1 : ∀ e ∈ (leftOf es seen).toList, ∀ w' L', lset L kr (r, .mapIter (some b) since (seen.push e.born) clock) = some L' → St w0 w' L' → K (eH ρ d (.tuple #[.bool true, e.key, e.val])) w') :
    OW P n ⟨some d, .next x false, ty, pos, af, g⟩ K ρ w := by
  have hr := hs.get hkr
  have hb := hs.get hkb
  rcases run_next_at (P := P) w ty r b since c0 seen es clock hr hb hold hsc with ⟨hz, hrun⟩ | ⟨e, he, w1, hw1, hrun⟩
  · refine o_val (F := fun v w' => v = .tuple #[.bool false] ∧ w' = w) ?_ hd ?_
    · intro o e ho he
      refine ⟨_, _, ?_, rfl, rfl⟩
      have : (Instr.next (.pointer (some ⟨r, 0, none⟩)) false o.type).run P w = .ok (.tuple #[.bool false]) w := hrun
      simp [execOp, ho, he _ _ hx, this]
    · rintro v w' ⟨rfl, rfl⟩
      exact h0 hz
  · refine o_val (F := fun v w' => v = .tuple #[.bool true, e.key, e.val] ∧ w' = ChangeMaps.setBlock w1 r (.mapIter (some b) since (seen.push e.born) clock)) ?_ hd ?_
    · intro o e' ho he
      refine ⟨_, _, ?_, rfl, rfl⟩
      have : (Instr.next (.pointer (some ⟨r, 0, none⟩)) false o.type).run P w = .ok (.tuple #[.bool true, e.key, e.val]) (ChangeMaps.setBlock w1 r (.mapIter (some b) since (seen.push e.born) clock)) := hrun
      simp [execOp, ho, he _ _ hx, this]
    · rintro v w' ⟨rfl, rfl⟩
      have hs1 : St w0 w1 L := by rcases hw1 with rfl | rfl; exact hs; exact hs.drew
      have hr1 := hs1.get hkr
      have hl : lset L kr (r, .mapIter (some b) since (seen.push e.born) clock) = some (L.set kr (r, .mapIter (some b) since (seen.push e.born) clock)) := lset_of _ (by
        rw [lget_eq] at hkr
        exact (List.getElem?_eq_some_iff.1 hkr).1)
      have hh := MapKept.heap_set (o' := .mapIter (some b) since (seen.push e.born) clock) hr1
      exact h1 e he _ _ hl (hs1.put hkr hl (unf_iter _ _ _ _) rfl rfl rfl (by simp [ChangeMaps.setBlock]) hh.1 hh.2)
theorem po_entry {x : Operand} {r b since clock : Nat} {seen : Array Nat} {es : Array MapEntry} {e : MapEntry} (hx : ev ρ x = some (.pointer (some ⟨r, 0, none⟩))) (hr : w.heap[r]? = some (.mapIter (some b) since (seen.push e.born) clock)) (hb : w.heap[b]? = some (.map es clock))
    (he : e ∈ es.toList) (hn : (es.toList.map (·.born)).Nodup) : PO P (.entry x) ρ w (.tuple #[e.key, e.val]) := by
  intro o e' ho he'
  have := run_entry_at (P := P) w r b since seen es clock e hr hb he hn
  simp [execOp, ho, he' _ _ hx, this]
end
def leftB (T : List (Nat × Bool × Nat)) (seen : Array Nat) : List (Nat × Bool × Nat) := T.filter fun t => !seen.contains t.2.2
theorem left_map (T : List (Nat × Bool × Nat)) (seen : Array Nat) : (leftOf (T.map entB).toArray seen).toList = (leftB T seen).map entB := by
  unfold leftOf leftB
  induction T with
  | nil => rfl
  | cons t T ih =>
    simp only [List.map_cons, List.filter_cons] at ih ⊢
    simp only [Array.toList_filter, List.filter_cons] at ih ⊢
    by_cases h : seen.contains (entB t).born
    · have h2 : seen.contains t.2.2 = true := h
      simp only [h, h2, Bool.not_true, Bool.false_eq_true, if_false]
      exact ih
    · have h2 : seen.contains t.2.2 = false := by simpa [entB] using h
      simp only [Bool.not_eq_true] at h
      simp only [h, h2, Bool.not_false, if_true, List.map_cons]
      exact congrArg _ ih
theorem left_push {T : List (Nat × Bool × Nat)} {seen : Array Nat} (b : Nat) : leftB T (seen.push b) = (leftB T seen).filter fun t => !(t.2.2 == b) := by
  unfold leftB
  rw [List.filter_filter]
  congr 1
  funext t
  cases h1 : seen.contains t.2.2 <;> cases h2 : (t.2.2 == b) <;> simp_all [Array.contains_push]
theorem take_perm : ∀ {R : List (Nat × Bool × Nat)} {e : Nat × Bool × Nat}, (R.map (·.2.2)).Nodup → e ∈ R → List.Perm R (e :: R.filter fun t => !(t.2.2 == e.2.2))
  | [], _, _, h => by cases h
  | a :: R, e, hn, h => by
    simp only [List.map_cons, List.nodup_cons] at hn
    rcases List.mem_cons.1 h with rfl | h
    · have hall : R.filter (fun t => !(t.2.2 == e.2.2)) = R := List.filter_eq_self.2 fun t ht => by
        have : t.2.2 ≠ e.2.2 := fun he => hn.1 (he ▸ List.mem_map_of_mem ht)
        simpa using this
      rw [List.filter_cons_of_neg (by simp), hall]
    · have hne : e.2.2 ≠ a.2.2 := fun he => hn.1 (he ▸ List.mem_map_of_mem h)
      rw [List.filter_cons_of_pos (by simpa using fun he : a.2.2 = e.2.2 => hne he.symm)]
      exact ((take_perm hn.2 h).cons a).trans (List.Perm.swap _ _ _)
def headT (h : PHead) : List (Nat × Bool × Nat) := [(15, h.response, 0), (10, h.authority, 1), (9, h.cut, 2), (8, h.desired, 3), (7, h.available, 4), (5, h.authentic, 5), (4, h.unchecked, 6)]
theorem headT_born (h : PHead) : ((headT h).map (·.2.2)).Nodup := by simp [headT]
theorem headT_bits (h : PHead) : (headT h).map (fun t => (t.1, t.2.1)) = headBits h := rfl
theorem headT_lt (h : PHead) : ∀ t ∈ headT h, t.1 < 16 := by
  intro t ht
  simp only [headT, List.mem_cons, List.not_mem_nil, or_false] at ht
  rcases ht with rfl | rfl | rfl | rfl | rfl | rfl | rfl <;> simp
structure Rng (h : PHead) (D : List (Nat × Bool × Nat)) (seen : Array Nat) : Prop where
  perm : List.Perm (D ++ leftB (headT h) seen) (headT h)
theorem Rng.start (h : PHead) : Rng h [] #[] := ⟨by
  have : leftB (headT h) #[] = headT h := List.filter_eq_self.2 fun t _ => by simp
  rw [this]; exact List.Perm.refl _⟩
theorem left_nodup {h : PHead} {seen : Array Nat} : ((leftB (headT h) seen).map (·.2.2)).Nodup := by
  have : List.Sublist ((leftB (headT h) seen).map (·.2.2)) ((headT h).map (·.2.2)) := (List.filter_sublist).map _
  exact List.Nodup.sublist this (headT_born h)
theorem Rng.step {h : PHead} {D : List (Nat × Bool × Nat)} {seen : Array Nat} (hR : Rng h D seen) {t : Nat × Bool × Nat} (ht : t ∈ leftB (headT h) seen) :
    Rng h (D ++ [t]) (seen.push t.2.2) ∧ (leftB (headT h) (seen.push t.2.2)).length < (leftB (headT h) seen).length := by
  have hp := take_perm (left_nodup (h := h) (seen := seen)) ht
  rw [← left_push] at hp
  refine ⟨⟨?_⟩, by rw [hp.length_eq]; simp⟩
  rw [List.append_assoc]
  exact ((hp.symm.append_left D)).trans hR.perm
theorem Rng.done {h : PHead} {D : List (Nat × Bool × Nat)} {seen : Array Nat} (hR : Rng h D seen) (h0 : leftB (headT h) seen = []) : setB (D.map fun t => (t.1, t.2.1)) (h.op * 2048 ||| h.code) = h.bits := by
  refine setB_bits h ?_
  rw [← headT_bits]
  have := hR.perm
  rw [h0, List.append_nil] at this
  exact this.map _
theorem setB_snoc (l : List (Nat × Bool)) (p : Nat) (v : Bool) (n : Nat) : setB (l ++ [(p, v)]) n = if v then setB l n ||| 2 ^ p else setB l n := by
  unfold setB
  rw [List.foldl_append]; rfl
theorem setB_lt {l : List (Nat × Bool)} {n : Nat} (hl : ∀ e ∈ l, e.1 < 16) (hn : n < 65536) : setB l n < 65536 := by
  unfold setB
  induction l generalizing n with
  | nil => exact hn
  | cons e l ih =>
    rw [List.foldl_cons]
    refine ih (fun x hx => hl x (List.mem_cons_of_mem _ hx)) ?_
    split
    · have h2 : 2 ^ e.1 < 2 ^ 16 := Nat.pow_lt_pow_right (by decide) (hl e (List.mem_cons_self ..))
      exact Nat.or_lt_two_pow (n := 16) hn h2
    · exact hn
theorem shl_one : ∀ p, p < 16 → IntKind.u16.wrap ((1 : Int) * 2 ^ (min ((p : Nat) : Int).toNat IntKind.u16.bits)) = ((2 ^ p : Nat) : Int) := by decide +kernel
end Go.Proofs.YtgpfjlfkaoffeaaGreatDoor

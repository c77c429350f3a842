/- Packing: bodies. Packing: bodies of many pieces. Packing: parameters. -/
import Derived.Test.YtgpfjlfkaoffeaaGreatDoorP22
set_option linter.all false
namespace Go.Proofs.YtgpfjlfkaoffeaaGreatDoor
open Go
section
variable {A : Nat → Addr} {V V0 : Vw} {w w00 : World} {L : List (Nat × Obj)} {msg e : Value} {k : EK} {bm bb p0 : Nat} {pre out s : List UInt8} {t : List (List UInt8 × Nat)} {R : Option Ink} {mv : Value}
theorem nameF_tbl {w2 w : Ink} (h : nameP false s w = some w2) : w2.tbl = w.tbl := by
 rw [nameP_F] at h
 obtain ⟨b, _, rfl⟩ := Option.map_eq_some_iff.1 h
 rfl
theorem po_sliceAll {ρ : Env} {T e : TypeId} {x : Operand} {k len cap : Nat} {a : Option Addr} (hT : elemSize Tryz.prog T = some (e, k)) (hx : ev ρ x = some (.slice a len cap)) (hc : len ≤ cap) : PO Tryz.prog (.slice T x none none none) ρ w (.slice a len cap) := by
 have q := po_slice (w := w) hT hx (.no _) (.no _) (Nat.zero_le _) hc
 have e : sliceAddr a 0 cap k = a := by
  unfold sliceAddr
  split
  rfl
  cases a with
  | none => rfl
  | some v => simp [Addr.add]
 rw [e] at q
 simpa using q
theorem Sl.more {B : Base} {n : Nat} {news : List UInt8} (h : Sl 5 1 B w L mv (pre.length + out.length + n) ((pre ++ out ++ news).map byteVal)) (hn : news.length = n) : Sl 5 1 B w L mv (pre.length + (out ++ news).length) ((pre ++ (out ++ news)).map byteVal) := by
 subst hn
 simpa [Nat.add_assoc, List.append_assoc] using h
set_option maxHeartbeats 1000000 in
theorem p_bodyA (hG : Gl A V) (hs : Sl 5 1 ⟨w00, V0, V⟩ w ((bm, tblObj t) :: L) msg (pre.length + out.length) ((pre ++ out).map byteVal)) (hm : pre.length + out.length ≤ 137438953472) (hk : Keys t) {d : List UInt8} (hd : d.length = 4) (hB : CellsW ⟨w00, V0, V⟩ L bb p0 (d.map byteVal)) :
  CallsV Tryz.prog 224 #[.pointer (some ⟨bb, p0, none⟩), msg, .map (some bm), .int .i64 (pre.length : Nat)] w (PackQ A w00 V0 V L bm pre (some ((⟨out, t⟩ : Ink).put d))) := by
 have hM : ∀ {t : List (List UInt8 × Nat)}, ∀ x ∈ L, x ∈ (bm, tblObj t) :: L := fun x hx => List.mem_cons_of_mem _ hx
 refine aT [_, _, _, _] Tryz.func224 Tryz.ntmps224 Tryz.results224 rfl rfl (dP (dN rfl rfl (dN rfl rfl (aH (aF ?_)))))
 have hsrc : Src Tryz.prog w 1 (.slice (some ⟨bb, p0, none⟩) 4 4) d.length (d.map byteVal) := by rw [hd]; exact src_slice (by simp [hd]) (fun j v hv => hB.ld hs.st hM j hv)
 refine aB (dM rfl rfl (dM rfl rfl (lp (aN rfl) rfl (lp (po_fa0' fo_157_0 rfl) rfl (lp (po_slice_arrA ar_155 (by decide) rfl) rfl (aZ ok_226 rfl rfl (p_packBytes (l := d) hs (by omega) hsrc (by omega)) rfl (fun v15 w HF => ?_)))))))
 obtain _ := HF
 replace hs := HF
 refine dN rfl rfl (dN rfl rfl (aH (aV ⟨_, res2 rfl rfl, ?_⟩)))
 exact ⟨_, _, .ok, rfl, rfl, .inl ⟨(⟨out, t⟩ : Ink).put d, rfl, rfl, hk, Sl.more hs rfl⟩⟩
set_option maxHeartbeats 1000000 in
theorem p_bodyAAAA (hG : Gl A V) (hs : Sl 5 1 ⟨w00, V0, V⟩ w ((bm, tblObj t) :: L) msg (pre.length + out.length) ((pre ++ out).map byteVal)) (hm : pre.length + out.length ≤ 137438953472) (hk : Keys t) {d : List UInt8} (hd : d.length = 16) (hB : CellsW ⟨w00, V0, V⟩ L bb p0 (d.map byteVal)) :
  CallsV Tryz.prog 247 #[.pointer (some ⟨bb, p0, none⟩), msg, .map (some bm), .int .i64 (pre.length : Nat)] w (PackQ A w00 V0 V L bm pre (some ((⟨out, t⟩ : Ink).put d))) := by
 have hM : ∀ {t : List (List UInt8 × Nat)}, ∀ x ∈ L, x ∈ (bm, tblObj t) :: L := fun x hx => List.mem_cons_of_mem _ hx
 refine aT [_, _, _, _] Tryz.func247 Tryz.ntmps247 Tryz.results247 rfl rfl (dP (dN rfl rfl (dN rfl rfl (aH (aF ?_)))))
 have hsrc : Src Tryz.prog w 1 (.slice (some ⟨bb, p0, none⟩) 16 16) d.length (d.map byteVal) := by rw [hd]; exact src_slice (by simp [hd]) (fun j v hv => hB.ld hs.st hM j hv)
 refine aB (dM rfl rfl (dM rfl rfl (lp (aN rfl) rfl (lp (po_fa0' fo_194_0 rfl) rfl (lp (po_slice_arrA ar_192 (by decide) rfl) rfl (aZ ok_226 rfl rfl (p_packBytes (l := d) hs (by omega) hsrc (by omega)) rfl (fun v15 w HF => ?_)))))))
 obtain _ := HF
 replace hs := HF
 refine dN rfl rfl (dN rfl rfl (aH (aV ⟨_, res2 rfl rfl, ?_⟩)))
 exact ⟨_, _, .ok, rfl, rfl, .inl ⟨(⟨out, t⟩ : Ink).put d, rfl, rfl, hk, Sl.more hs rfl⟩⟩
theorem p_bodyNS (hG : Gl A V) (hs : Sl 5 1 ⟨w00, V0, V⟩ w ((bm, tblObj t) :: L) msg (pre.length + out.length) ((pre ++ out).map byteVal)) (hm : pre.length + out.length ≤ 137438953472) (hk : Keys t) (h255 : s.length ≤ 255) (hB : CellsW ⟨w00, V0, V⟩ L bb p0 (nmC s s.length)) :
  CallsV Tryz.prog 228 #[.pointer (some ⟨bb, p0, none⟩), msg, .map (some bm), .int .i64 (pre.length : Nat)] w (PackQ A w00 V0 V L bm pre (nameP true s ⟨out, t⟩)) := by
 refine aT [_, _, _, _] Tryz.func228 Tryz.ntmps228 Tryz.results228 rfl rfl (dP (dN rfl rfl (dN rfl rfl (aH (dP (dM rfl rfl (lp (aN rfl) rfl (lp (po_fa0' fo_163_0 rfl) rfl (dM rfl rfl (dM rfl rfl (dM rfl rfl (aZ ok_144 rfl rfl (p_nameT hG hs (by omega) ⟨h255, hB⟩ hk) rfl (fun v16 w HF => ?_)))))))))))))
 obtain ⟨mv, e, k, rfl, he, hr⟩ := HF
 refine dO rfl rfl rfl (dO rfl rfl rfl (dN rfl rfl (dN rfl rfl (aH (aV ⟨_, res2 rfl rfl, ?_⟩)))))
 exact ⟨_, _, k, rfl, he, hr⟩
theorem p_bodyCNAME (hG : Gl A V) (hs : Sl 5 1 ⟨w00, V0, V⟩ w ((bm, tblObj t) :: L) msg (pre.length + out.length) ((pre ++ out).map byteVal)) (hm : pre.length + out.length ≤ 137438953472) (hk : Keys t) (h255 : s.length ≤ 255) (hB : CellsW ⟨w00, V0, V⟩ L bb p0 (nmC s s.length)) :
  CallsV Tryz.prog 231 #[.pointer (some ⟨bb, p0, none⟩), msg, .map (some bm), .int .i64 (pre.length : Nat)] w (PackQ A w00 V0 V L bm pre (nameP true s ⟨out, t⟩)) := by
 refine aT [_, _, _, _] Tryz.func231 Tryz.ntmps231 Tryz.results231 rfl rfl (dP (dN rfl rfl (dN rfl rfl (aH (dP (dM rfl rfl (lp (aN rfl) rfl (lp (po_fa0' fo_168_0 rfl) rfl (dM rfl rfl (dM rfl rfl (dM rfl rfl (aZ ok_144 rfl rfl (p_nameT hG hs (by omega) ⟨h255, hB⟩ hk) rfl (fun v16 w HF => ?_)))))))))))))
 obtain ⟨mv, e, k, rfl, he, hr⟩ := HF
 refine dO rfl rfl rfl (dO rfl rfl rfl (dN rfl rfl (dN rfl rfl (aH (aV ⟨_, res2 rfl rfl, ?_⟩)))))
 exact ⟨_, _, k, rfl, he, hr⟩
theorem p_bodyPTR (hG : Gl A V) (hs : Sl 5 1 ⟨w00, V0, V⟩ w ((bm, tblObj t) :: L) msg (pre.length + out.length) ((pre ++ out).map byteVal)) (hm : pre.length + out.length ≤ 137438953472) (hk : Keys t) (h255 : s.length ≤ 255) (hB : CellsW ⟨w00, V0, V⟩ L bb p0 (nmC s s.length)) :
  CallsV Tryz.prog 237 #[.pointer (some ⟨bb, p0, none⟩), msg, .map (some bm), .int .i64 (pre.length : Nat)] w (PackQ A w00 V0 V L bm pre (nameP true s ⟨out, t⟩)) := by
 refine aT [_, _, _, _] Tryz.func237 Tryz.ntmps237 Tryz.results237 rfl rfl (dP (dN rfl rfl (dN rfl rfl (aH (dP (dM rfl rfl (lp (aN rfl) rfl (lp (po_fa0' fo_178_0 rfl) rfl (dM rfl rfl (dM rfl rfl (dM rfl rfl (aZ ok_144 rfl rfl (p_nameT hG hs (by omega) ⟨h255, hB⟩ hk) rfl (fun v16 w HF => ?_)))))))))))))
 obtain ⟨mv, e, k, rfl, he, hr⟩ := HF
 refine dO rfl rfl rfl (dO rfl rfl rfl (dN rfl rfl (dN rfl rfl (aH (aV ⟨_, res2 rfl rfl, ?_⟩)))))
 exact ⟨_, _, k, rfl, he, hr⟩
set_option maxHeartbeats 1000000 in
theorem p_bodyMX (hG : Gl A V) (hs : Sl 5 1 ⟨w00, V0, V⟩ w ((bm, tblObj t) :: L) msg (pre.length + out.length) ((pre ++ out).map byteVal)) (hm : pre.length + out.length ≤ 137438953472) (hk : Keys t) (h255 : s.length ≤ 255) {n1 : Nat} (hn1 : n1 < 65536) (hB : CellsW ⟨w00, V0, V⟩ L bb p0 (.int .u16 n1 :: nmC s s.length)) :
  CallsV Tryz.prog 240 #[.pointer (some ⟨bb, p0, none⟩), msg, .map (some bm), .int .i64 (pre.length : Nat)] w (PackQ A w00 V0 V L bm pre (nameP true s ((⟨out, t⟩ : Ink).put (be2 n1)))) := by
 have hM : ∀ {t : List (List UInt8 × Nat)}, ∀ x ∈ L, x ∈ (bm, tblObj t) :: L := fun x hx => List.mem_cons_of_mem _ hx
 have hN : NameW ⟨w00, V0, V⟩ L bb (p0 + 1) s := ⟨h255, hB.part 1 (fun j u hu => by rw [Nat.add_comm]; exact hu)⟩
 refine aT [_, _, _, _] Tryz.func240 Tryz.ntmps240 Tryz.results240 rfl rfl (dP (dN rfl rfl (dN rfl rfl (aH (dP (dM rfl rfl (dN rfl rfl (aH (dP (dM rfl rfl (dM rfl rfl (lp (aN rfl) rfl (lp (po_fa0' fo_183_0 rfl) rfl ?_)))))))))))))
 refine lp (aO rfl (bR k_22 (hB.ld hs.st hM 0 rfl))) rfl (aZ ok_143 rfl rfl (p_packUint16 hs (by omega) n1 hn1) rfl (fun v18 w HF => ?_))
 obtain _ := HF
 replace hs := Sl.more HF rfl
 refine dN rfl rfl (aH (dP (dM rfl rfl (lp (aN rfl) rfl (lp (bD fo_183_1 rfl) rfl (dM rfl rfl (dM rfl rfl (dM rfl rfl (aZ ok_144 rfl rfl (p_nameT hG hs (by simp [be2]; omega) hN hk) rfl (fun v26 w HF => ?_))))))))))
 obtain ⟨mv, e, k, rfl, he, hr⟩ := HF
 clear hs
 refine dM rfl rfl (dO rfl rfl rfl (dO rfl rfl rfl (dN rfl rfl (dN rfl rfl (aH (aF (dP (dM rfl rfl (lp (bB he rfl) rfl (aH (bH rfl (fun hc0 => ?_) (fun hc0 => ?_))))))))))))
 obtain ⟨hno, t', hs⟩ := PackQ.bad hr hc0
 refine dP (dM rfl rfl (dM rfl rfl (lp (bL rfl (by (simp only [List.all_cons, List.all_nil, he.oneCell]; rfl)) (bu_141_0_1 _ _)) rfl (aJ (cR hs rfl rfl rfl (fun b34 w hb34 hbe34 hs => ?_))))))
 replace hs := hs.drop hb34
 refine lp (cG Tryz.underlying139 (fun _ h => by cases h) rfl) rfl (dN rfl rfl (dN rfl rfl (aH (aV ⟨_, res2 rfl rfl, ?_⟩))))
 exact ⟨_, _, .other, rfl, dA, .inr ⟨rfl, hno, t', hs⟩⟩
 obtain ⟨w2, hn, hk2, hs⟩ := PackQ.good hr hc0
 refine aW (dP (dM rfl rfl (dN rfl rfl (dN rfl rfl (aH (aV ⟨_, res2 rfl rfl, ?_⟩))))))
 exact ⟨_, _, .ok, rfl, rfl, .inl ⟨w2, rfl, hn, hk2, hs⟩⟩
set_option maxHeartbeats 1000000 in
theorem p_bodyUnknown (hG : Gl A V) (hs : Sl 5 1 ⟨w00, V0, V⟩ w ((bm, tblObj t) :: L) msg (pre.length + out.length) ((pre ++ out).map byteVal)) (hm : pre.length + out.length ≤ 137438953472) (hk : Keys t) {ty : Nat} {d : List UInt8} {dv : Value} (hd : RB V dv d) (hdl : d.length ≤ 137438953472) (hB : CellsW ⟨w00, V0, V⟩ L bb p0 [.int .u16 ty, dv]) :
  CallsV Tryz.prog 261 #[.pointer (some ⟨bb, p0, none⟩), msg, .map (some bm), .int .i64 (pre.length : Nat)] w (PackQ A w00 V0 V L bm pre (some ((⟨out, t⟩ : Ink).put d))) := by
 have hM : ∀ {t : List (List UInt8 × Nat)}, ∀ x ∈ L, x ∈ (bm, tblObj t) :: L := fun x hx => List.mem_cons_of_mem _ hx
 obtain ⟨a, cap, rfl, hca, _⟩ := hd.form
 refine aT [_, _, _, _] Tryz.func261 Tryz.ntmps261 Tryz.results261 rfl rfl (dP (dN rfl rfl (dN rfl rfl (aH (dP (dM rfl rfl (dM rfl rfl (lp (aN rfl) rfl (lp (bD fo_221_1 rfl) rfl (lp (aO rfl (bR k_23 (hB.ld hs.st hM 1 rfl))) rfl (lp (po_sliceAll es_23 rfl hca) rfl (aZ ok_226 rfl rfl (p_packBytes hs (by omega) (hd.src hs.isIn) (by omega)) rfl (fun v16 w HF => ?_)))))))))))))
 obtain _ := HF
 replace hs := HF
 refine dN rfl rfl (dN rfl rfl (aH (aV ⟨_, res2 rfl rfl, ?_⟩)))
 exact ⟨_, _, .ok, rfl, rfl, .inl ⟨(⟨out, t⟩ : Ink).put d, rfl, rfl, hk, Sl.more hs rfl⟩⟩
set_option maxHeartbeats 1000000 in
theorem p_bodySRV (hG : Gl A V) (hs : Sl 5 1 ⟨w00, V0, V⟩ w ((bm, tblObj t) :: L) msg (pre.length + out.length) ((pre ++ out).map byteVal)) (hm : pre.length + out.length ≤ 137438953472) (hk : Keys t) (h255 : s.length ≤ 255) {n1 n2 n3 : Nat} (hn1 : n1 < 65536) (hn2 : n2 < 65536) (hn3 : n3 < 65536) (hB : CellsW ⟨w00, V0, V⟩ L bb p0 (.int .u16 n1 :: .int .u16 n2 :: .int .u16 n3 :: nmC s s.length)) :
  CallsV Tryz.prog 250 #[.pointer (some ⟨bb, p0, none⟩), msg, .map (some bm), .int .i64 (pre.length : Nat)] w (PackQ A w00 V0 V L bm pre (nameP false s ((((⟨out, t⟩ : Ink).put (be2 n1)).put (be2 n2)).put (be2 n3)))) := by
 have hM : ∀ {t : List (List UInt8 × Nat)}, ∀ x ∈ L, x ∈ (bm, tblObj t) :: L := fun x hx => List.mem_cons_of_mem _ hx
 have hN : NameW ⟨w00, V0, V⟩ L bb (p0 + 3) s := ⟨h255, hB.part 3 (fun j u hu => by rw [Nat.add_comm]; exact hu)⟩
 refine aT [_, _, _, _] Tryz.func250 Tryz.ntmps250 Tryz.results250 rfl rfl (dP (dN rfl rfl (dN rfl rfl (aH (dP (dM rfl rfl (dN rfl rfl (aH (dP (dM rfl rfl (dM rfl rfl (lp (aN rfl) rfl (lp (po_fa0' fo_199_0 rfl) rfl ?_)))))))))))))
 refine lp (aO rfl (bR k_22 (hB.ld hs.st hM 0 rfl))) rfl (aZ ok_143 rfl rfl (p_packUint16 hs (by omega) n1 hn1) rfl (fun v18 w HF => ?_))
 obtain _ := HF
 replace hs := Sl.more HF rfl
 refine dN rfl rfl (aH (dP (dM rfl rfl (dM rfl rfl (lp (aN rfl) rfl (lp (bD fo_199_1 rfl) rfl (lp (aO rfl (bR k_22 (hB.ld hs.st hM 1 rfl))) rfl (aZ ok_143 rfl rfl (p_packUint16 hs (by simp [be2]; omega) n2 hn2) rfl (fun v24 w HF => ?_)))))))))
 obtain _ := HF
 replace hs := Sl.more HF rfl
 refine dN rfl rfl (aH (dP (dM rfl rfl (dM rfl rfl (lp (aN rfl) rfl (lp (bD fo_199_2 rfl) rfl (lp (aO rfl (bR k_22 (hB.ld hs.st hM 2 rfl))) rfl (aZ ok_143 rfl rfl (p_packUint16 hs (by simp [be2]; omega) n3 hn3) rfl (fun v30 w HF => ?_)))))))))
 obtain _ := HF
 replace hs := Sl.more HF rfl
 refine dN rfl rfl (aH (dP (dM rfl rfl (lp (aN rfl) rfl (lp (bD fo_199_3 rfl) rfl (dM rfl rfl (dM rfl rfl (aZ ok_144 rfl rfl (p_nameF hG hs (by simp [be2]; omega) (hN.more hM) hk) rfl (fun v37 w HF => ?_)))))))))
 obtain ⟨mv, e, k, rfl, he, hr⟩ := HF
 clear hs
 refine dM rfl rfl (dO rfl rfl rfl (dO rfl rfl rfl (dN rfl rfl (dN rfl rfl (aH (aF (dP (dM rfl rfl (lp (bB he rfl) rfl (aH (bH rfl (fun hc0 => ?_) (fun hc0 => ?_))))))))))))
 obtain ⟨hno, hs⟩ := PackQ.badF hr hc0
 refine dP (dM rfl rfl (dM rfl rfl (lp (bL rfl (by (simp only [List.all_cons, List.all_nil, he.oneCell]; rfl)) (bu_141_0_1 _ _)) rfl (aJ (cR hs rfl rfl rfl (fun b45 w hb45 hbe45 hs => ?_))))))
 replace hs := hs.drop hb45
 refine lp (cG Tryz.underlying139 (fun _ h => by cases h) rfl) rfl (dN rfl rfl (dN rfl rfl (aH (aV ⟨_, res2 rfl rfl, ?_⟩))))
 exact ⟨_, _, .other, rfl, dA, .inr ⟨rfl, hno, t, hs⟩⟩
 obtain ⟨w2, hn, hk2, hs⟩ := PackQ.goodF hr hc0
 have hw2 : w2.tbl = t := nameF_tbl hn
 refine aW (dP (dM rfl rfl (dN rfl rfl (dN rfl rfl (aH (aV ⟨_, res2 rfl rfl, ?_⟩))))))
 exact ⟨_, _, .ok, rfl, rfl, .inl ⟨w2, rfl, hn, hk2, by rw [hw2]; exact hs⟩⟩
end
end Go.Proofs.YtgpfjlfkaoffeaaGreatDoor
namespace Go.Proofs.YtgpfjlfkaoffeaaGreatDoor
open Go
theorem pairsP_succ {ps : List PPair} {j : Nat} {p : PPair} (h : ps[j]? = some p) : pairsP (ps.take (j + 1)) = pairsP (ps.take j) ++ (be2 p.key ++ (be2 p.data.length ++ p.data)) := by
 unfold pairsP
 rw [List.take_add_one, h]
 simp
theorem pairsP_len (ps : List PPair) : 4 * ps.length ≤ (pairsP ps).length := by
 induction ps with
 | nil => simp [pairsP]
 | cons p l ih =>
  unfold pairsP at ih ⊢
  have e : ∀ n, (be2 n).length = 2 := fun _ => rfl
  simp only [List.map_cons, List.flatten_cons, List.length_append, List.length_cons, e]
  omega
theorem pairsP_take (ps : List PPair) (j : Nat) : (pairsP (ps.take j)).length ≤ (pairsP ps).length := by
 have h : pairsP ps = pairsP (ps.take j) ++ pairsP (ps.drop j) := by
  unfold pairsP
  rw [← List.flatten_append, ← List.map_append, List.take_append_drop]
 rw [h, List.length_append]; omega
section
variable {A : Nat → Addr} {V V0 : Vw} {w w00 : World} {L : List (Nat × Obj)} {msg : Value} {bm bb p0 : Nat} {pre out s bx : List UInt8} {t : List (List UInt8 × Nat)} {ps : List PPair}
set_option maxHeartbeats 1000000 in
theorem p_bodySOA (hG : Gl A V) (hs : Sl 5 1 ⟨w00, V0, V⟩ w ((bm, tblObj t) :: L) msg (pre.length + out.length) ((pre ++ out).map byteVal)) (hm : pre.length + out.length ≤ 68719476736) (hk : Keys t) (h255 : s.length ≤ 255) (hx255 : bx.length ≤ 255) {n1 n2 n3 n4 n5 : Nat} (hB : CellsW ⟨w00, V0, V⟩ L bb p0 (nmC s s.length ++ (nmC bx bx.length ++ [.int .u32 n1, .int .u32 n2, .int .u32 n3, .int .u32 n4, .int .u32 n5]))) :
  CallsV Tryz.prog 234 #[.pointer (some ⟨bb, p0, none⟩), msg, .map (some bm), .int .i64 (pre.length : Nat)] w (PackQ A w00 V0 V L bm pre (((nameP true s ⟨out, t⟩).bind fun w => nameP true bx w).map fun w => ((((w.put (be4 n1)).put (be4 n2)).put (be4 n3)).put (be4 n4)).put (be4 n5))) := by
 have hM : ∀ {t : List (List UInt8 × Nat)}, ∀ x ∈ L, x ∈ (bm, tblObj t) :: L := fun x hx => List.mem_cons_of_mem _ hx
 have hN : NameW ⟨w00, V0, V⟩ L bb p0 s := ⟨h255, hB.part 0 (fun j u hu => at0 j hu)⟩
 have hN2 : NameW ⟨w00, V0, V⟩ L bb (p0 + 256) bx := ⟨hx255, hB.part 256 (fun j u hu => at256 h255 j (by
  have hl : j < (nmC bx bx.length).length := (List.getElem?_eq_some_iff.1 hu).1
  rw [List.getElem?_append_left hl]; exact hu))⟩
 refine aT [_, _, _, _] Tryz.func234 Tryz.ntmps234 Tryz.results234 rfl rfl (dP (dN rfl rfl (dN rfl rfl (aH (dP (dM rfl rfl (dN rfl rfl (aH (dP (dM rfl rfl (lp (aN rfl) rfl (lp (po_fa0' fo_173_0 rfl) rfl (dM rfl rfl ?_)))))))))))))
 refine dM rfl rfl (dM rfl rfl (aZ ok_144 rfl rfl (p_nameT hG hs (by omega) hN hk) rfl (fun v20 w HF => ?_)))
 obtain ⟨mv, e, k, rfl, he, hr⟩ := HF
 clear hs
 refine dM rfl rfl (dO rfl rfl rfl (dO rfl rfl rfl (dN rfl rfl (dN rfl rfl (aH (aF (dP (dM rfl rfl (lp (bB he rfl) rfl (aH (bH rfl (fun hc0 => ?_) (fun hc0 => ?_))))))))))))
 obtain ⟨hno, t', hs⟩ := PackQ.bad hr hc0
 refine dP (dM rfl rfl (dM rfl rfl (lp (bL rfl (by (simp only [List.all_cons, List.all_nil, he.oneCell]; rfl)) (bu_141_0_1 _ _)) rfl (aJ (cR hs rfl rfl rfl (fun b28 w hb28 hbe28 hs => ?_))))))
 replace hs := hs.drop hb28
 refine lp (cG Tryz.underlying139 (fun _ h => by cases h) rfl) rfl (dN rfl rfl (dN rfl rfl (aH (aV ⟨_, res2 rfl rfl, ?_⟩))))
 exact ⟨_, _, .other, rfl, dA, .inr ⟨rfl, by rw [hno]; rfl, t', hs⟩⟩
 obtain ⟨w2, hn, hk2, hs⟩ := PackQ.good hr hc0
 have hgrow := nameP_len hn
 simp only at hgrow
 refine aW (dP (dM rfl rfl (lp (aN rfl) rfl (lp (bD fo_173_1 rfl) rfl (dM rfl rfl (dM rfl rfl (dM rfl rfl (aZ ok_144 rfl rfl (p_nameT hG hs (by omega) hN2 hk2) rfl (fun v37 w HF => ?_)))))))))
 obtain ⟨mv2, e2, k2, rfl, he, hr2⟩ := HF
 clear hs
 refine dM rfl rfl (dO rfl rfl rfl (dO rfl rfl rfl (dN rfl rfl (dN rfl rfl (aH (aF (dP (dM rfl rfl (lp (bB he rfl) rfl (aH (bH rfl (fun hc1 => ?_) (fun hc1 => ?_))))))))))))
 obtain ⟨hno2, t', hs⟩ := PackQ.bad hr2 hc1
 have hno2' : nameP true bx w2 = none := hno2
 refine dP (dM rfl rfl (dM rfl rfl (lp (bL rfl (by (simp only [List.all_cons, List.all_nil, he.oneCell]; rfl)) (bu_141_0_1 _ _)) rfl (aJ (cR hs rfl rfl rfl (fun b45 w hb45 hbe45 hs => ?_))))))
 replace hs := hs.drop hb45
 refine lp (cG Tryz.underlying139 (fun _ h => by cases h) rfl) rfl (dN rfl rfl (dN rfl rfl (aH (aV ⟨_, res2 rfl rfl, ?_⟩))))
 exact ⟨_, _, .other, rfl, dA, .inr ⟨rfl, by rw [hn, Option.bind_some, hno2']; rfl, t', hs⟩⟩
 obtain ⟨w3, hn2, hk3, hs⟩ := PackQ.good hr2 hc1
 have hgrow2 := nameP_len hn2
 simp only at hgrow2
 have hn2' : nameP true bx w2 = some w3 := hn2
 refine aW (dP (dM rfl rfl (dM rfl rfl (lp (aN rfl) rfl (lp (bD fo_173_2 rfl) rfl (lp (aO rfl (bR cB (hB.ld hs.st hM 512 (at256 h255 (256 + 0) (at256 hx255 0 rfl))))) rfl (aZ ok_187 rfl rfl (p_packUint32 hs (by omega) n1) rfl (fun v52 w HF => ?_))))))))
 obtain _ := HF
 replace hs := Sl.more HF rfl
 refine dN rfl rfl (aH (dP (dM rfl rfl (dM rfl rfl (lp (aN rfl) rfl (lp (bD fo_173_3 rfl) rfl (lp (aO rfl (bR cB (hB.ld hs.st hM 513 (at256 h255 (256 + 1) (at256 hx255 1 rfl))))) rfl (aZ ok_187 rfl rfl (p_packUint32 hs (by simp [be4]; omega) n2) rfl (fun v58 w HF => ?_)))))))))
 obtain _ := HF
 replace hs := Sl.more HF rfl
 refine dN rfl rfl (aH (dP (dM rfl rfl (dM rfl rfl (lp (aN rfl) rfl (lp (bD fo_173_4 rfl) rfl (lp (aO rfl (bR cB (hB.ld hs.st hM 514 (at256 h255 (256 + 2) (at256 hx255 2 rfl))))) rfl (aZ ok_187 rfl rfl (p_packUint32 hs (by simp [be4]; omega) n3) rfl (fun v64 w HF => ?_)))))))))
 obtain _ := HF
 replace hs := Sl.more HF rfl
 refine dN rfl rfl (aH (dP (dM rfl rfl (dM rfl rfl (lp (aN rfl) rfl (lp (bD fo_173_5 rfl) rfl (lp (aO rfl (bR cB (hB.ld hs.st hM 515 (at256 h255 (256 + 3) (at256 hx255 3 rfl))))) rfl (aZ ok_187 rfl rfl (p_packUint32 hs (by simp [be4]; omega) n4) rfl (fun v70 w HF => ?_)))))))))
 obtain _ := HF
 replace hs := Sl.more HF rfl
 refine dN rfl rfl (aH (dP (dM rfl rfl (dM rfl rfl (lp (aN rfl) rfl (lp (bD fo_173_6 rfl) rfl (lp (aO rfl (bR cB (hB.ld hs.st hM 516 (at256 h255 (256 + 4) (at256 hx255 4 rfl))))) rfl (aZ ok_187 rfl rfl (p_packUint32 hs (by simp [be4]; omega) n5) rfl (fun v76 w HF => ?_)))))))))
 obtain _ := HF
 replace hs := Sl.more HF rfl
 refine dN rfl rfl (dN rfl rfl (aH (aV ⟨_, res2 rfl rfl, ?_⟩)))
 exact ⟨_, _, .ok, rfl, rfl, .inl ⟨((((w3.put (be4 n1)).put (be4 n2)).put (be4 n3)).put (be4 n4)).put (be4 n5), rfl, by rw [hn, Option.bind_some, hn2']; rfl, hk3, hs⟩⟩
set_option maxHeartbeats 2000000 in
theorem p_bodyOPT (hG : Gl A V) (hs : Sl 5 1 ⟨w00, V0, V⟩ w ((bm, tblObj t) :: L) msg (pre.length + out.length) ((pre ++ out).map byteVal)) (hm : pre.length + out.length ≤ 68719476736) (hk : Keys t) {pv : Value} (hP : RPairs V pv ps) (hsum : (pairsP ps).length ≤ 68719476736) (hd : ∀ p ∈ ps, p.key < 65536 ∧ p.data.length < 65536) (hB : CellsW ⟨w00, V0, V⟩ L bb p0 [pv]) :
  CallsV Tryz.prog 253 #[.pointer (some ⟨bb, p0, none⟩), msg, .map (some bm), .int .i64 (pre.length : Nat)] w (PackQ A w00 V0 V L bm pre (some ((⟨out, t⟩ : Ink).put (pairsP ps)))) := by
 have hM : ∀ {t : List (List UInt8 × Nat)}, ∀ x ∈ L, x ∈ (bm, tblObj t) :: L := fun x hx => List.mem_cons_of_mem _ hx
 obtain ⟨xs, hS, hR⟩ := hP
 obtain ⟨a, cap, rfl, hcap, ha⟩ := hS.form
 refine aT [_, _, _, _] Tryz.func253 Tryz.ntmps253 Tryz.results253 rfl rfl (dP (dN rfl rfl (dN rfl rfl (aH (aF (dP (dM rfl rfl (lp (aN rfl) rfl (lp (po_fa0' fo_205_0 rfl) rfl (lp (aO rfl (bR k_203 (hB.ld hs.st hM 0 rfl))) rfl (lp (bC Tryz.underlying203 rfl) rfl (dM rfl rfl (aH ?_)))))))))))))
 refine bQ (dC (fun g : Nat × Value => upd (upd (upd (upd emp 18 (.int .i64 g.1)) 17 (.int .i64 ps.length)) 16 (.slice a ps.length cap)) 1 g.2) (fun g w => Sl 5 1 ⟨w00, V0, V⟩ w ((bm, tblObj t) :: L) g.2 (pre.length + (out ++ pairsP (ps.take g.1)).length) ((pre ++ (out ++ pairsP (ps.take g.1))).map byteVal) ∧ g.1 ≤ ps.length) (fun g => ps.length - g.1) (0, msg) (aL rfl (aL rfl (aL rfl (aL rfl (bG _))))) ⟨by simpa [pairsP] using hs, Nat.zero_le _⟩ ?_)
 clear hs
 rintro ⟨j, sv⟩ w ⟨hs, hj⟩
 simp only at hs hj ⊢
 have hpt := pairsP_take ps j
 have hpl := pairsP_len ps
 have hop := hs.open
 refine dP (lp (cY rfl rfl) rfl (aH (aF (bH rfl (fun hc0 => ?_) (fun hc0 => ?_)))))
 clear hs
 obtain ⟨X, hX, hs⟩ := hop
 obtain ⟨b, p, rfl, hc⟩ := ha (by omega)
 have hjl : j < ps.length := by omega
 obtain ⟨c, ⟨vd, rfl, hRB⟩, hcl, hct⟩ := hR.at (List.getElem?_eq_getElem hjl)
 obtain ⟨hkey, hdl⟩ := hd _ (List.getElem_mem hjl)
 obtain ⟨av, cv, hav, hcv, _⟩ := hRB.form
 subst hav
 refine aW (aF (bQ (dP (lp (po_iaN j (p + j * 2) es_203 rfl rfl rfl hjl rfl) rfl ?_))))
 refine lp (aO rfl (ld_cells (l := [.int .u16 ps[j].key, .slice av ps[j].data.length cv]) k_304 rfl (fun i u hu => by
  rw [Nat.add_assoc]
  exact Vw.cell_in hs.isIn (hc _ _ (cell_at hct hu))))) rfl ?_
 refine aJ (aX hs z_304 rfl (fun b11 w hb11 he11 hs => aJ (dR 0 hs k_304 rfl rfl rfl rfl rfl (aG rfl) rfl (fun w hs => aH (dP (dM rfl rfl (lp (aR fo_304_0 rfl) rfl (lp (aO rfl (aQ k_22 (hs.g 0 rfl) rfl)) rfl (aZ ok_143 rfl rfl (p_packUint16 (SlX.close (L := _ :: _ :: L) hX hs) (by simp; omega) ps[j].key hkey) rfl (fun v25 w HF => ?_))))))))))
 obtain _ := HF
 replace hs := Sl.more HF rfl
 refine dN rfl rfl (aH (dP (lp (aR fo_304_1 rfl) rfl (lp (aO rfl (aQ k_23 (hs.st.get (k := 0) rfl) rfl)) rfl (lp (bC Tryz.underlying23 rfl) rfl (lp (bY Tryz.underlying3 Tryz.underlying22 rfl (u16c (c := ps[j].data.length) rfl (by omega))) rfl (dN rfl rfl (aH (dP (dM rfl rfl (dM rfl rfl (aZ ok_143 rfl rfl (p_packUint16 hs (by simp [be2]; omega) ps[j].data.length (by omega)) rfl (fun v32 w HF => ?_)))))))))))))
 obtain _ := HF
 replace hs := Sl.more HF rfl
 refine dN rfl rfl (aH (aB (dM rfl rfl (lp (aR fo_304_1 rfl) rfl (lp (aO rfl (aQ k_23 (hs.st.get (k := 0) rfl) rfl)) rfl (aZ ok_226 rfl rfl (p_packBytes hs (by simp [be2]; omega) (hRB.src hs.isIn) (by omega)) rfl (fun v36 w HF => ?_)))))))
 obtain _ := HF
 replace hs := (Sl.more HF rfl).drop hb11
 refine dN rfl rfl (aH (aB (lp (bN rfl rfl (i64c (c := j + 1) (by omega) (by omega))) rfl (dM rfl rfl (aH ?_)))))
 exact ⟨(j + 1, _), aL rfl (aL rfl (aL rfl (aL rfl (bG _)))), ⟨by rw [pairsP_succ (List.getElem?_eq_getElem hjl)]; simpa [List.append_assoc, Nat.add_assoc] using hs, by simp only; omega⟩, by simp only; omega⟩
 refine e_exit (dP (dM rfl rfl (dN rfl rfl (dN rfl rfl (aH (aV ⟨_, res2 rfl rfl, ?_⟩))))))
 obtain rfl : j = ps.length := by omega
 exact ⟨_, _, .ok, rfl, rfl, .inl ⟨(⟨out, t⟩ : Ink).put (pairsP ps), rfl, rfl, hk, by simpa [Ink.put] using hs⟩⟩
end
end Go.Proofs.YtgpfjlfkaoffeaaGreatDoor
namespace Go.Proofs.YtgpfjlfkaoffeaaGreatDoor
open Go
def zeroBehind (ps : List PPair) : Bool := ps.tail.any fun p => p.key == 0
theorem zeroBehind_at {ps : List PPair} {j : Nat} (hj : 0 < j) (hl : j < ps.length) (h : ps[j].key = 0) : zeroBehind ps = true := by
 unfold zeroBehind
 rw [List.any_eq_true]
 refine ⟨ps[j], ?_, by simpa using h⟩
 obtain ⟨i, rfl⟩ : ∃ i, j = i + 1 := ⟨j - 1, by omega⟩
 cases ps with
 | nil => simp at hl
 | cons a l => simp
theorem zeroBehind_no {ps : List PPair} (h : ∀ j, 0 < j → ∀ hl : j < ps.length, ps[j].key ≠ 0) : zeroBehind ps = false := by
 unfold zeroBehind
 rw [List.any_eq_false]
 intro p hp
 cases ps with
 | nil => simp at hp
 | cons a l =>
  simp only [List.tail_cons] at hp
  obtain ⟨i, hi, rfl⟩ := List.mem_iff_getElem.1 hp
  have := h (i + 1) (by omega) (by simpa using hi)
  simpa using this
section
variable {A : Nat → Addr} {V V0 : Vw} {w w00 : World} {L : List (Nat × Obj)} {msg : Value} {bm bb p0 : Nat} {pre out s bx : List UInt8} {t : List (List UInt8 × Nat)} {ps : List PPair}
set_option maxHeartbeats 4000000 in
theorem p_bodySVCB (hG : Gl A V) (hs : Sl 5 1 ⟨w00, V0, V⟩ w ((bm, tblObj t) :: L) msg (pre.length + out.length) ((pre ++ out).map byteVal)) (hm : pre.length + out.length ≤ 68719476736) (hk : Keys t) (h255 : s.length ≤ 255) {n1 : Nat} (hn1 : n1 < 65536) {pv : Value} (hP : RPairs V pv ps) (hsum : (pairsP ps).length ≤ 68719476736) (hd : ∀ p ∈ ps, p.key < 65536 ∧ p.data.length < 65536)
  (hB : CellsW ⟨w00, V0, V⟩ L bb p0 (.int .u16 n1 :: (nmC s s.length ++ [pv]))) {off : Int} :
  CallsV Tryz.prog 256 #[.pointer (some ⟨bb, p0, none⟩), msg, .map (some bm), .int .i64 off] w (PackQ A w00 V0 V L bm pre ((nameP false s ((⟨out, t⟩ : Ink).put (be2 n1))).bind fun w => if zeroBehind ps = true then none else some (w.put (pairsP ps)))) := by
 have hM : ∀ {t : List (List UInt8 × Nat)}, ∀ x ∈ L, x ∈ (bm, tblObj t) :: L := fun x hx => List.mem_cons_of_mem _ hx
 obtain ⟨xs, hS, hR⟩ := hP
 obtain ⟨a, cap, rfl, hcap, ha⟩ := hS.form
 have hN : NameW ⟨w00, V0, V⟩ L bb (p0 + 1) s := ⟨h255, hB.part 1 (fun j u hu => by
  have hl : j < (nmC s s.length).length := (List.getElem?_eq_some_iff.1 hu).1
  rw [Nat.add_comm, List.getElem?_cons_succ, List.getElem?_append_left hl]; exact hu)⟩
 refine aT [_, _, _, _] Tryz.func256 Tryz.ntmps256 Tryz.results256 rfl rfl (dP (dN rfl rfl (dN rfl rfl (aH (dP (dM rfl rfl (dN rfl rfl (aH (dP (dM rfl rfl (dM rfl rfl (lp (aN rfl) rfl (lp (po_fa0' fo_211_0 rfl) rfl ?_)))))))))))))
 refine lp (aO rfl (bR k_22 (hB.ld hs.st hM 0 rfl))) rfl (aZ ok_143 rfl rfl (p_packUint16 hs (by omega) n1 hn1) rfl (fun v21 w HF => ?_))
 obtain _ := HF
 replace hs := Sl.more HF rfl
 refine dN rfl rfl (aH (dP (dM rfl rfl (lp (aN rfl) rfl (lp (bD fo_211_1 rfl) rfl (dM rfl rfl (aZ ok_144 rfl rfl (p_nameF (pre := []) (out := pre ++ (out ++ be2 n1)) hG (by simpa using hs) (by simp [be2]; omega) (hN.more hM) hk) rfl (fun v27 w HF => ?_))))))))
 obtain ⟨mv, e, k, rfl, he, hr⟩ := HF
 clear hs
 refine dM rfl rfl (dO rfl rfl rfl (dO rfl rfl rfl (dN rfl rfl (dN rfl rfl (aH (aF (dP (dM rfl rfl (lp (bB he rfl) rfl (aH (bH rfl (fun hc0 => ?_) (fun hc0 => ?_))))))))))))
 obtain ⟨hno, hs⟩ := PackQ.badF hr hc0
 have hno' : nameF s = none := by rw [nameP_F] at hno; simpa using hno
 refine dP (dM rfl rfl (dM rfl rfl (lp (bL rfl (by (simp only [List.all_cons, List.all_nil, he.oneCell]; rfl)) (bu_141_0_1 _ _)) rfl (aJ (cR hs rfl rfl rfl (fun b35 w hb35 hbe35 hs => ?_))))))
 replace hs := hs.drop hb35
 refine lp (cG Tryz.underlying139 (fun _ h => by cases h) rfl) rfl (dN rfl rfl (dN rfl rfl (aH (aV ⟨_, res2 rfl rfl, ?_⟩))))
 exact ⟨_, _, .other, rfl, dA, .inr ⟨rfl, by rw [nameP_F, hno']; rfl, t, hs⟩⟩
 obtain ⟨w2, hn, _, hs⟩ := PackQ.goodF hr hc0
 obtain ⟨nb, hnb, hs⟩ : ∃ nb, nameF s = some nb ∧ Sl 5 1 ⟨w00, V0, V⟩ w ((bm, tblObj t) :: L) mv (pre.length + (out ++ be2 n1 ++ nb).length) ((pre ++ (out ++ be2 n1 ++ nb)).map byteVal) := by
  rw [nameP_F] at hn
  obtain ⟨nb, h3, rfl⟩ := Option.map_eq_some_iff.1 hn
  exact ⟨nb, h3, by simpa [Nat.add_assoc, List.append_assoc] using hs⟩
 have hgrow : nb.length ≤ 2 * s.length + 2 := by
  have := nameP_len (short := false) (s := s) (w := {}) (w2 := ⟨nb, []⟩) (by rw [nameP_F, hnb]; rfl)
  simpa using this
 refine aW (dP (dN rfl rfl (aH (aF (dP (dM rfl rfl (lp (aN rfl) rfl (lp (bD fo_211_2 rfl) rfl (lp (aO rfl (bR k_209 (hB.ld hs.st hM 257 (by rw [show 257 = 256 + 0 + 1 by rfl, List.getElem?_cons_succ]; exact at256 h255 0 rfl)))) rfl (lp (bC Tryz.underlying209 rfl) rfl (dM rfl rfl (aH (bQ ?_)))))))))))))
 refine dC (fun g : Nat × Value => upd (upd (upd (upd (upd (upd emp 42 (.int .i64 g.1)) 41 (.int .i64 ps.length)) 40 (.slice a ps.length cap)) 12 (.int .u16 0)) 10 msg) 1 g.2) (fun g w => Sl 5 1 ⟨w00, V0, V⟩ w ((bm, tblObj t) :: L) g.2 (pre.length + (out ++ be2 n1 ++ nb ++ pairsP (ps.take g.1)).length) ((pre ++ (out ++ be2 n1 ++ nb ++ pairsP (ps.take g.1))).map byteVal) ∧ g.1 ≤ ps.length ∧ ∀ q, 0 < q → q < g.1 → ∀ hl : q < ps.length, ps[q].key ≠ 0) (fun g => ps.length - g.1) (0, mv) (aL rfl (aL rfl (aL rfl (aL rfl (aL rfl (aL rfl (bG _))))))) ⟨by simpa [pairsP] using hs, Nat.zero_le _, fun q h1 h2 => by omega⟩ ?_
 clear hs
 rintro ⟨j, sv⟩ w ⟨hs, hj, hnz⟩
 simp only at hs hj hnz ⊢
 have hpt := pairsP_take ps j
 have hpl := pairsP_len ps
 have hop := hs.open
 refine dP (lp (cY rfl rfl) rfl (aH (aF (bH rfl (fun hc1 => ?_) (fun hc1 => ?_)))))
 clear hs
 obtain ⟨X, hX, hs⟩ := hop
 obtain ⟨b, p, rfl, hc⟩ := ha (by omega)
 have hjl : j < ps.length := by omega
 obtain ⟨c, ⟨vd, rfl, hRB⟩, hcl, hct⟩ := hR.at (List.getElem?_eq_getElem hjl)
 obtain ⟨hkey, hdl⟩ := hd _ (List.getElem_mem hjl)
 obtain ⟨av, cv, hav, hcv, _⟩ := hRB.form
 subst hav
 refine aW (aF (bQ (dP (dM rfl rfl (lp (po_iaN j (p + j * 2) es_209 rfl rfl rfl hjl rfl) rfl ?_)))))
 refine lp (aO rfl (ld_cells (l := [.int .u16 ps[j].key, .slice av ps[j].data.length cv]) k_345 rfl (fun i u hu => by
  rw [Nat.add_assoc]
  exact Vw.cell_in hs.isIn (hc _ _ (cell_at hct hu))))) rfl ?_
 refine aJ (aX hs z_345 rfl (fun b14 w hb14 he14 hs => dN rfl rfl (aJ (dR 0 hs k_345 rfl rfl rfl rfl rfl (aG rfl) rfl (fun w hs => aH (aF (dG (fun ρ w => Sub (upd (upd (upd (upd (upd (upd (upd (upd emp 54 (.bool (decide (0 < j ∧ ps[j].key = 0)))) 14 (.pointer (some ⟨b14, 0, none⟩))) 42 (.int .i64 j)) 41 (.int .i64 ps.length)) 40 (.slice (some ⟨b, p, none⟩) ps.length cap)) 12 (.int .u16 0)) 10 msg) 1 sv) ρ ∧ St ⟨w00, V0, V⟩ w ((b14, .cells [Value.int .u16 ps[j].key, .slice av ps[j].data.length cv].toArray 345 (0, 0)) :: (((bm, tblObj t) :: L) ++ X))) ?_ ?_)))))))
 rcases Nat.eq_zero_or_pos j with hj0 | hj0
 have hg : false = !true := rfl
 refine aB (dM rfl rfl (lp (po_gtrF rfl rfl (by omega)) rfl (dM rfl rfl (aU rfl rfl hg rfl (aU rfl rfl hg rfl (aU rfl rfl hg rfl (aU rfl rfl hg rfl (lp (bW rfl rfl rfl) rfl (aH ?_)))))))))
 have hdv : false = decide (0 < j ∧ ps[j].key = 0) := by symm; apply decide_eq_false; omega
 exact ⟨aL rfl (aL rfl (aL rfl (aL rfl (aL rfl (aL rfl (aL rfl (aL (congrArg (fun q => some (Value.bool q)) hdv) (bG _)))))))), hs⟩
 have hg : true = true := rfl
 refine aB (dM rfl rfl (lp (po_gtrT rfl rfl (by omega)) rfl (dM rfl rfl (lg rfl rfl hg (aR fo_345_0 rfl) rfl (lg rfl rfl rfl (aO rfl (aQ k_343 (hs.g 0 rfl) rfl)) rfl (lg rfl rfl hg (aC rfl) rfl (lg rfl rfl hg (po_leq rfl rfl) rfl (lp (bO rfl rfl rfl) rfl (aH ?_)))))))))
 have hdv : decide (((ps[j].key : Nat) : Int) ≤ 0) = decide (0 < j ∧ ps[j].key = 0) := by apply decide_eq_decide.2; omega
 exact ⟨aL rfl (aL rfl (aL rfl (aL rfl (aL rfl (aL rfl (aL rfl (aL (congrArg (fun q => some (Value.bool q)) hdv) (bG _)))))))), hs⟩
 clear hs
 rintro ρ w ⟨hsub, hs⟩
 refine EW.weaken hsub (bH rfl (fun hc2 => ?_) (fun hc2 => ?_))
 refine aF (bV hs [1] mixed (fun w hs => dI 0 rfl (fun w => aC rfl) rfl rfl (dJ 1 rfl hs rfl (fun w hs => (aO rfl (bR k_57 (hG.ld hs.isIn (g := 20) rfl)))) rfl (dI 2 rfl (fun w => (bL rfl (by rfl) (bu_141_0_1 _ _))) rfl rfl (dI 5 rfl (fun w => aD rfl) rfl rfl (dL 3 rfl (cR hs rfl rfl rfl (fun b58 w hb58 hbe58 hs => ?_))))))))
 replace hs := hs.drop hb58
 refine ⟨fun _ => hs, dI 4 rfl (fun w => (cG Tryz.underlying139 (fun _ h => by cases h) rfl)) rfl rfl (dI 6 rfl (fun w => aD rfl) rfl rfl (bS (by decide +kernel) (aV ⟨_, res2 rfl rfl, ?_⟩)))⟩
 exact ⟨_, _, .other, rfl, dA, .inr ⟨rfl, by rw [nameP_F, hnb]; show (if zeroBehind ps = true then none else _) = none; rw [if_pos (zeroBehind_at hc2.1 hjl hc2.2)], t, (SlX.close (L := (bm, tblObj t) :: L) hX (hs.drop hb14)).st⟩⟩
 refine aW (aF (dP (lp (aR fo_345_1 rfl) rfl (lp (aO rfl (aQ k_23 (hs.g 0 rfl) rfl)) rfl (lp (bC Tryz.underlying23 rfl) rfl (lp (cQ rfl rfl) rfl (aH (bH rfl (fun hc3 => ?_) (fun hc3 => ?_)))))))))
 exact absurd hc3 (by omega)
 refine aW (dP (dM rfl rfl (lp (aR fo_345_0 rfl) rfl (lp (aO rfl (aQ k_343 (hs.g 0 rfl) rfl)) rfl (aZ ok_143 rfl rfl (p_packUint16 (SlX.close (L := _ :: _ :: L) hX hs) (by simp [be2]; omega) ps[j].key hkey) rfl (fun v72 w HF => ?_))))))
 obtain _ := HF
 replace hs := Sl.more HF rfl
 refine dN rfl rfl (aH (dP (dM rfl rfl (lp (aR fo_345_1 rfl) rfl (lp (aO rfl (aQ k_23 (hs.st.get (k := 0) rfl) rfl)) rfl (lp (bC Tryz.underlying23 rfl) rfl (lp (bY Tryz.underlying3 Tryz.underlying22 rfl (u16c (c := ps[j].data.length) rfl (by omega))) rfl (aZ ok_143 rfl rfl (p_packUint16 hs (by simp [be2]; omega) ps[j].data.length (by omega)) rfl (fun v78 w HF => ?_)))))))))
 obtain _ := HF
 replace hs := Sl.more HF rfl
 refine dN rfl rfl (aH (aB (dM rfl rfl (lp (aR fo_345_1 rfl) rfl (lp (aO rfl (aQ k_23 (hs.st.get (k := 0) rfl) rfl)) rfl (aJ (o_append (k := ps[j].data.length) (news := ps[j].data.map byteVal) el_23 (.inr ⟨_, Tryz.underlying23⟩) hs rfl rfl (hRB.src hs.isIn) (dH _) (by simp [be2]; omega) (by simp [be2]; omega) rfl (fun v82 w hs => ?_))))))))
 replace hs := (Sl.more (by rw [← List.map_append] at hs; exact hs) rfl).drop hb14
 refine dN rfl rfl (aH (aB (lp (bN rfl rfl (i64c (c := j + 1) (by omega) (by omega))) rfl (dM rfl rfl (aH ?_)))))
 exact ⟨(j + 1, _), aL rfl (aL rfl (aL rfl (aL rfl (aL rfl (aL rfl (bG _)))))), ⟨by rw [pairsP_succ (List.getElem?_eq_getElem hjl)]; simpa [List.append_assoc, Nat.add_assoc] using hs, by simp only; omega, fun q h1 h2 hl => by
  by_cases hq : q = j
  subst hq; exact fun h => hc2 ⟨h1, h⟩
  exact hnz q h1 (by simp only at h2; omega) hl⟩, by simp only; omega⟩
 refine e_exit (dP (dM rfl rfl (dN rfl rfl (dN rfl rfl (aH (aV ⟨_, res2 rfl rfl, ?_⟩))))))
 obtain rfl : j = ps.length := by omega
 have hz := zeroBehind_no (ps := ps) (fun q h1 hl => hnz q h1 hl hl)
 exact ⟨_, _, .ok, rfl, rfl, .inl ⟨⟨out ++ be2 n1 ++ nb ++ pairsP ps, t⟩, rfl, by rw [nameP_F, hnb]; show (if zeroBehind ps = true then none else _) = _; rw [hz]; rfl, hk, by simpa using hs⟩⟩
end
end Go.Proofs.YtgpfjlfkaoffeaaGreatDoor

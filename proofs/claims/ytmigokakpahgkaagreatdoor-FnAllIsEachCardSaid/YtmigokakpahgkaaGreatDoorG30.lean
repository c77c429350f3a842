/- The reference reads a message as a whole. A message of none is packed into its header. packs() is true. Nothing that is read is long. -/
import Derived.Test.YtmigokakpahgkaaGreatDoorG21
import Derived.Test.YtmigokakpahgkaaGreatDoorG29
set_option linter.all false
namespace Go.Proofs.YtmigokakpahgkaaGreatDoor
open Go
theorem unpackM_of {l : List UInt8} {s0 s1 s2 s3 s4 : PSeen} (h : parseM l [1, 3, 8, 13, 18] = [s0, s1, s2, s3, s4]) : unpackM l = if s0.fault = 0 ∧ s1.fault = 0 ∧ s2.fault = 0 ∧ s3.fault = 0 ∧ s4.fault = 0 then
   some { id := s0.id, bits := s0.bits, asks := s1.asks, answers := s2.recs, authorities := s3.recs, additionals := s4.recs } else none := by
 unfold unpackM; rw [h]
theorem unpackM_fault {l : List UInt8} {s0 s1 s2 s3 s4 s : PSeen} {j : Nat} (h : parseM l [1, 3, 8, 13, 18] = [s0, s1, s2, s3, s4]) (hj : [s0, s1, s2, s3, s4][j]? = some s) (hs : s.fault ≠ 0) : unpackM l = none := by
 rw [unpackM_of h]
 have hm := List.mem_of_getElem? hj
 refine if_neg ?_
 rintro ⟨h0, h1, h2, h3, h4⟩
 simp only [List.mem_cons, List.not_mem_nil, or_false] at hm
 rcases hm with rfl | rfl | rfl | rfl | rfl <;> exact hs ‹_›
theorem unpackM_clean {l : List UInt8} {s0 s1 s2 s3 s4 : PSeen} (h : parseM l [1, 3, 8, 13, 18] = [s0, s1, s2, s3, s4]) (hz : ∀ i s, i < 5 → [s0, s1, s2, s3, s4][i]? = some s → s.fault = 0) :
  unpackM l = some { id := s0.id, bits := s0.bits, asks := s1.asks, answers := s2.recs, authorities := s3.recs, additionals := s4.recs } := by
 rw [unpackM_of h]
 exact if_pos ⟨hz 0 _ (by decide) rfl, hz 1 _ (by decide) rfl, hz 2 _ (by decide) rfl, hz 3 _ (by decide) rfl, hz 4 _ (by decide) rfl⟩
section
variable {V : Vw} {w0 : World} {l : List UInt8} {mv : Value}
set_option maxHeartbeats 4000000 in
theorem c_sunpack (hV : V.In w0) (hb : RB V mv l) (h2l : l.length ≤ 4294967296) :
  CallsV Tryz.prog 19 #[mv] w0 fun v w' => ∃ (V' : Vw) (mcs : List Value) (ok : Bool) (x : PMsg), v = .tuple #[.agg mcs.toArray, .bool ok] ∧ St ⟨w0, V, V'⟩ w' [] ∧ RMsg V' x mcs ∧ ((ok = true ∧ unpackM l = some x) ∨ (ok = false ∧ unpackM l = none ∧ x = {})) := by
 have hs := St.start hV
 obtain ⟨s0, s1, s2, s3, s4, hp⟩ : ∃ s0 s1 s2 s3 s4, parseM l [1, 3, 8, 13, 18] = [s0, s1, s2, s3, s4] := ⟨_, _, _, _, _, parse5 l⟩
 refine aT [_] Tryz.func19 Tryz.ntmps19 Tryz.results19 rfl rfl (dP (aJ (aX hs z_42 rfl (fun b2 w hb2 he2 hs => ?_))))
 replace hs : St ⟨w0, V, V⟩ w [(b2, .cells msgZ.toArray 42 (0, 0))] := hs
 refine dN rfl rfl (aH (dP (dM rfl rfl (aJ (o_bslice (vls := [[.int .i64 1], [.int .i64 3], [.int .i64 8], [.int .i64 13], [.int .i64 18]]) el_24 hs rfl rfl rfl rfl (by simp) (by decide) (by decide) rfl (fun b8 w hb8 he8 hs => ?_))))))
 obtain ⟨V1, hle1, hv8, hs⟩ := St.give hs hb8
 have hst : SlV V1 1 (.slice (some ⟨b8, 0, none⟩) 5 5) 5 (([1, 3, 8, 13, 18] : List Int).map fun i => .int .i64 i) := SlV.cells (sp := []) hv8 rfl (by decide)
 refine aZ ok_17 rfl rfl (c_sparse hs.isIn (hb.mono hle1) h2l hst (by decide)) rfl (fun v9 w HF => ?_)
 obtain ⟨V2, hc, hR⟩ := HF
 replace hs := hs.frame hc
 rw [hp] at hR
 obtain ⟨xs, hS, hRw⟩ := hR
 obtain ⟨a1, c1, rfl, hk1, h1⟩ := hS.form
 obtain ⟨b1, p1, rfl, hcs⟩ := h1 (by simp)
 obtain ⟨e0, ⟨qa0, ra0, rfl, f0, g0⟩, hl0, ht0⟩ := hRw.at (i := 0) (a := s0) rfl
 obtain ⟨e1, ⟨qa1, ra1, rfl, f1, g1⟩, hl1, ht1⟩ := hRw.at (i := 1) (a := s1) rfl
 obtain ⟨e2, ⟨qa2, ra2, rfl, f2, g2⟩, hl2, ht2⟩ := hRw.at (i := 2) (a := s2) rfl
 obtain ⟨e3, ⟨qa3, ra3, rfl, f3, g3⟩, hl3, ht3⟩ := hRw.at (i := 3) (a := s3) rfl
 obtain ⟨e4, ⟨qa4, ra4, rfl, f4, g4⟩, hl4, ht4⟩ := hRw.at (i := 4) (a := s4) rfl
 refine dN rfl rfl (aH (aF (dP (dM rfl rfl (lp (bC Tryz.underlying25 rfl) rfl (dM rfl rfl (aH (bQ (dC (fun j : Nat => upd (upd (upd (upd (upd emp 12 (.int .i64 j)) 11 (.int .i64 (5 : Nat))) 10 (.slice (some ⟨b1, p1, none⟩) 5 c1)) 4 (.slice (some ⟨b1, p1, none⟩) 5 c1)) 2 (.pointer (some ⟨b2, 0, none⟩))) (fun j w' => St ⟨w0, V, V2⟩ w' [(b2, .cells msgZ.toArray 42 (0, 0))] ∧ j ≤ 5 ∧ ∀ i s, i < j → [s0, s1, s2, s3, s4][i]? = some s → s.fault = 0) (fun j => 5 - j) 0 (aL rfl (aL rfl (aL rfl (aL rfl (aL rfl (bG _)))))) ⟨hs, Nat.zero_le _, fun i s h => absurd h (by omega)⟩ ?_)))))))))
 clear hs
 rintro j w ⟨hs, hj, hz⟩
 refine dP (lp (cY rfl rfl) rfl (aH (aF (bH rfl (fun hc0 => ?_) (fun hc0 => ?_)))))
 have hjl : j < 5 := by omega
 obtain ⟨x, hx⟩ : ∃ x, [s0, s1, s2, s3, s4][j]? = some x := ⟨_, List.getElem?_eq_getElem hjl⟩
 obtain ⟨e, hrx, hl, ht⟩ := hRw.at hx
 have hfl := hrx.flat
 obtain ⟨qa, ra, rfl, f, g⟩ := hrx
 refine aW (aF (bQ (dP (lp (po_iaN j (p1 + j * 13) es_25 rfl rfl rfl hjl rfl) rfl (lp (aO rfl (ld_cells (l := _) bZ hl (fun i u hu => by rw [Nat.add_assoc]; exact Vw.cell_in hs.isIn (hcs _ _ (cell_at ht hu))))) rfl (aJ (aX hs z_33 rfl (fun b6 w hb6 he6 hs => aJ (dR 0 hs bZ rfl rfl rfl hfl.2 rfl hfl.1 rfl (fun w hs => aH (dP (lp (aR cV rfl) rfl (lp (aO rfl (cT (a := []) (i := 0) cH (hs.g 0 rfl) rfl rfl rfl)) rfl (lp (po_neq rfl rfl) rfl (aH ?_)))))))))))))))
 refine bH rfl (fun hc1 => ?_) (fun hc1 => ?_)
 refine dP (lp (bM (vs := []) (ps := []) rfl bz_42) rfl (aJ (dR 1 hs k_42 rfl rfl rfl (by simp) (by rfl) (aG (by decide +kernel)) rfl (fun w hs => dN rfl rfl (aH (aV ⟨_, res2 ⟨_, rfl, aP k_42 (hs.g 1 rfl) rfl⟩ rfl, ?_⟩))))))
 have hf0 : x.fault ≠ 0 := fun h => hc1 (by simp [h])
 exact ⟨V2, _, false, {}, rfl, (hs.drop hb6).drop hb2, RMsg.nil V2, .inr ⟨rfl, unpackM_fault hp hx hf0, rfl⟩⟩
 refine aW ?_
 have hnext : ∀ i s, i < j + 1 → [s0, s1, s2, s3, s4][i]? = some s → s.fault = 0 := fun i s hi hsi => by
  rcases Nat.lt_or_ge i j with h | h
  exact hz i s h hsi
  obtain rfl : i = j := by omega
  rw [hx] at hsi; cases hsi; simpa using hc1
 refine aB (lp (bN rfl rfl (i64c (c := j + 1) (by omega) (by omega))) rfl (dM rfl rfl (aH ?_)))
 exact ⟨j + 1, aL rfl (aL rfl (aL rfl (aL rfl (aL rfl (bG _))))), ⟨hs.drop hb6, by omega, hnext⟩, by omega⟩
 refine e_exit (aF ?_)
 have hj5 : j = 5 := by omega
 subst hj5
 have hM := unpackM_clean hp hz
 have hRM : RMsg V2 { id := s0.id, bits := s0.bits, asks := s1.asks, answers := s2.recs, authorities := s3.recs, additionals := s4.recs } (headC s0.id s0.bits ++ [qa1, ra2, ra3, ra4]) := ⟨_, _, _, _, rfl, f1, g2, g3, g4⟩
 refine e_draw (fun w2 => V2.In w2) [3, 7, 11, 15, 19] mixed (fun w hw => ?_)
 replace hs := hw.st hs
 refine dI 0 rfl (fun w => aC rfl) rfl rfl (dI 1 rfl (fun w => (po_iaN 0 (p1 + 0 * 13) es_25 rfl rfl rfl (by decide) rfl)) rfl rfl (dI 2 rfl (fun w => bD fo_33_1 rfl) rfl rfl (dJ 3 rfl (hs.isIn) rfl (fun w hf => (aO rfl (ld_cells (l := headC s0.id s0.bits) k_29 rfl (fun i u hu => by rw [Nat.add_assoc, Nat.add_assoc]; exact Vw.cell_in hf (hcs _ _ (cell_at ht0 (by rw [Nat.add_comm 1 i, List.getElem?_cons_succ]; exact getElem?_headL hu))))))) rfl (dI 4 rfl (fun w => aC rfl) rfl rfl (dI 5 rfl (fun w => (po_iaN 1 (p1 + 1 * 13) es_25 rfl rfl rfl (by decide) rfl)) rfl rfl (dI 6 rfl (fun w => bD fo_33_2 rfl) rfl rfl (dJ 7 rfl (hs.isIn) rfl (fun w hf => (aO rfl (bR (v := qa1) k_30 (by rw [Nat.add_assoc]; exact Vw.cell_in hf (hcs _ _ (cell_at ht1 (i := 11) rfl)))))) rfl (dI 8 rfl (fun w => aC rfl) rfl rfl (dI 9 rfl (fun w => (po_iaN 2 (p1 + 2 * 13) es_25 rfl rfl rfl (by decide) rfl)) rfl rfl (dI 10 rfl (fun w => bD fo_33_3 rfl) rfl rfl (dJ 11 rfl (hs.isIn) rfl (fun w hf => (aO rfl (bR (v := ra2) k_31 (by rw [Nat.add_assoc]; exact Vw.cell_in hf (hcs _ _ (cell_at ht2 (i := 12) rfl)))))) rfl (dI 12 rfl (fun w => aC rfl) rfl rfl (dI 13 rfl (fun w => (po_iaN 3 (p1 + 3 * 13) es_25 rfl rfl rfl (by decide) rfl)) rfl rfl ?_)))))))))))))
 refine dI 14 rfl (fun w => bD fo_33_3 rfl) rfl rfl (dJ 15 rfl (hs.isIn) rfl (fun w hf => (aO rfl (bR (v := ra3) k_31 (by rw [Nat.add_assoc]; exact Vw.cell_in hf (hcs _ _ (cell_at ht3 (i := 12) rfl)))))) rfl (dI 16 rfl (fun w => aC rfl) rfl rfl (dI 17 rfl (fun w => (po_iaN 4 (p1 + 4 * 13) es_25 rfl rfl rfl (by decide) rfl)) rfl rfl (dI 18 rfl (fun w => bD fo_33_3 rfl) rfl rfl (dJ 19 rfl (hs.isIn) rfl (fun w hf => (aO rfl (bR (v := ra4) k_31 (by rw [Nat.add_assoc]; exact Vw.cell_in hf (hcs _ _ (cell_at ht4 (i := 12) rfl)))))) rfl (dI 20 rfl (fun w => (po_buildG [headC s0.id s0.bits, [qa1], [ra2], [ra3], [ra4]] st_42 rfl rfl (by simp only [List.map_cons, List.map_nil, cells_one f1.oneCell, cells_one g2.oneCell, cells_one g3.oneCell, cells_one g4.oneCell]; rfl) rfl rfl)) rfl rfl (dL 21 rfl (dR 0 hs k_42 rfl rfl rfl hRM.flat.2 rfl hRM.flat.1 rfl (fun w hs => ⟨fun h => absurd h (by decide +kernel), dI 22 rfl (fun w => aD rfl) rfl rfl (bS (by decide +kernel) (aV ⟨_, res2 ⟨_, rfl, aP k_42 (hs.g 0 rfl) hRM.flat.2⟩ rfl, ?_⟩))⟩)))))))))
 exact ⟨V2, _, true, _, rfl, hs.drop hb2, hRM, .inl ⟨rfl, hM⟩⟩
end
end Go.Proofs.YtmigokakpahgkaaGreatDoor
namespace Go.Proofs.YtmigokakpahgkaaGreatDoor
open Go
def pkC (out : List UInt8) : List Value := out.map byteVal ++ List.replicate (512 - out.length) (.int .u8 0)
theorem pkC_len {out : List UInt8} (h : out.length ≤ 512) : (pkC out).length = 512 := by simp [pkC]; omega
theorem pkC_app {out news : List UInt8} (h : out.length + news.length ≤ 512) :
  (pkC out).take (0 + out.length * 1) ++ news.map byteVal ++ (pkC out).drop (0 + out.length * 1 + news.length * 1) = pkC (out ++ news) := by
 unfold pkC
 have h1 : 0 + out.length * 1 = (out.map byteVal).length := by simp
 rw [h1, List.take_left' rfl]
 have h2 : (out.map byteVal).length + news.length * 1 = (out.map byteVal).length + news.length := by omega
 rw [h2, ← List.drop_drop, List.drop_left' rfl, List.drop_replicate]
 simp only [List.map_append, List.length_append, List.append_assoc]
 have h3 : 512 - out.length - news.length = 512 - (out.length + news.length) := by omega
 rw [h3]
section
variable {A : Nat → Addr} {V : Vw} {w0 : World} {b bh bm : Nat} {E EH : TypeId} {out : List UInt8}
set_option maxHeartbeats 1000000 in
theorem c_packUint16 (hV : V.In w0) (hown : w0.heap[b]? = some (.cells (pkC out).toArray E (0, 0))) (hvn : V b = none) {n : Nat} (hn : n = out.length) (h : out.length + 2 ≤ 512) (x : Nat) (hx : x < 256) :
  CallsV Tryz.prog 177 #[.slice (some ⟨b, 0, none⟩) n 512, .int .u16 x] w0 fun v w' => v = .slice (some ⟨b, 0, none⟩) (n + 2 : Nat) 512 ∧ St ⟨w0, V, V⟩ w' [(b, .cells (pkC (out ++ [0, UInt8.ofNat x])).toArray E (0, 0))] := by
 subst hn
 have hs := St.start1 hV hown (bU _ _) hvn
 refine aT [_, _] Tryz.func177 Tryz.ntmps177 Tryz.results177 rfl rfl (dP (dN rfl rfl (aH (dP (dM rfl rfl (dM rfl rfl (lp (po_shr (c := 0) rfl rfl (by decide) (by have h := u16shr (n := x) (k := 8); rw [Nat.div_eq_of_lt (by simpa using hx)] at h; exact h)) rfl (lp (bY Tryz.underlying27 Tryz.underlying5 rfl rfl) rfl (dM rfl rfl (lp (bY Tryz.underlying27 Tryz.underlying5 rfl (u8w (by omega))) rfl (aJ (o_bslice (vls := [[.int .u8 0], [.int .u8 x]]) el_22 hs rfl rfl rfl rfl (by simp) (by decide) (by decide) rfl (fun b11 w hb11 he11 hs => ?_)))))))))))))
 obtain ⟨V1, hle1, hv11, hs⟩ := St.give hs hb11
 have hbx : byteVal (UInt8.ofNat x) = .int .u8 x := by unfold byteVal; rw [UInt8.toNat_ofNat_of_lt' (by simpa using hx)]
 have hrb : SlV V1 1 (.slice (some ⟨b11, 0, none⟩) 2 2) 2 (([0, UInt8.ofNat x] : List UInt8).map byteVal) := SlV.cells (sp := []) (by rw [List.map_cons, List.map_cons, hbx]; exact hv11) rfl (by decide)
 refine aJ (o_appendAt (kk := 0) (k := 2) el_22 (Or.inr ⟨_, Tryz.underlying22⟩) hs rfl rfl (hrb.src hs.isIn) (dH _) rfl (by omega) (by rw [pkC_len (by omega)]; omega) rfl rfl (fun w hs => ?_))
 have hpk := pkC_app (out := out) (news := [0, UInt8.ofNat x]) (by simpa using h)
 replace hs : St ⟨w0, V, V1⟩ w [(b, .cells (pkC (out ++ [0, UInt8.ofNat x])).toArray E (0, 0))] := by rw [← hpk]; exact hs
 refine dN rfl rfl (aH (aV ⟨_, res1 rfl, ?_⟩))
 exact ⟨rfl, hs.less⟩
def hdrZ (id : Nat) : List Value := [.int .u16 id, .int .u16 0, .int .u16 0, .int .u16 0, .int .u16 0, .int .u16 0]
set_option maxHeartbeats 2000000 in
theorem c_hpack (hV : V.In w0) (hh : V bh = some (.cells (hdrZ 7).toArray EH (0, 0))) (hown : w0.heap[b]? = some (.cells (pkC []).toArray E (0, 0))) (hvn : V b = none) :
  CallsV Tryz.prog 152 #[.pointer (some ⟨bh, 0, none⟩), .slice (some ⟨b, 0, none⟩) 0 512] w0 fun v w' => v = .slice (some ⟨b, 0, none⟩) 12 512 ∧ St ⟨w0, V, V⟩ w' [(b, .cells (pkC [0, 7, 0, 0, 0, 0, 0, 0, 0, 0, 0, 0]).toArray E (0, 0))] := by
 have hs := St.start1 hV hown (bU _ _) hvn
 refine aT [_, _] Tryz.func152 Tryz.ntmps152 Tryz.results152 rfl rfl (dP (dN rfl rfl (aH (dP (dM rfl rfl (dM rfl rfl (lp (aN rfl) rfl (lp (aR fo_50_0 rfl) rfl (lp (aO rfl (bR (v := .int .u16 7) cB (Vw.cell_in hs.isIn (Vw.cell_of hh rfl)))) rfl (aZ ok_177 rfl rfl (c_packUint16 hs.isIn (hs.g 0 rfl) (hs.off (k := 0) rfl) rfl (by decide) 7 (by decide)) rfl (fun v10 w HF => ?_)))))))))))
 obtain ⟨rfl, hc⟩ := HF
 replace hs := hs.frame1 (k := 0) rfl rfl hc
 refine dN rfl rfl (aH (dP (dM rfl rfl (dM rfl rfl (lp (aN rfl) rfl (lp (aR fo_50_1 rfl) rfl (lp (aO rfl (bR (v := .int .u16 0) cB (Vw.cell_in hs.isIn (Vw.cell_of hh rfl)))) rfl (aZ ok_177 rfl rfl (c_packUint16 hs.isIn (hs.g 0 rfl) (hs.off (k := 0) rfl) rfl (by decide) 0 (by decide)) rfl (fun v16 w HF => ?_)))))))))
 obtain ⟨rfl, hc⟩ := HF
 replace hs := hs.frame1 (k := 0) rfl rfl hc
 refine dN rfl rfl (aH (dP (dM rfl rfl (dM rfl rfl (lp (aN rfl) rfl (lp (aR fo_50_2 rfl) rfl (lp (aO rfl (bR (v := .int .u16 0) cB (Vw.cell_in hs.isIn (Vw.cell_of hh rfl)))) rfl (aZ ok_177 rfl rfl (c_packUint16 hs.isIn (hs.g 0 rfl) (hs.off (k := 0) rfl) rfl (by decide) 0 (by decide)) rfl (fun v22 w HF => ?_)))))))))
 obtain ⟨rfl, hc⟩ := HF
 replace hs := hs.frame1 (k := 0) rfl rfl hc
 refine dN rfl rfl (aH (dP (dM rfl rfl (dM rfl rfl (lp (aN rfl) rfl (lp (aR fo_50_3 rfl) rfl (lp (aO rfl (bR (v := .int .u16 0) cB (Vw.cell_in hs.isIn (Vw.cell_of hh rfl)))) rfl (aZ ok_177 rfl rfl (c_packUint16 hs.isIn (hs.g 0 rfl) (hs.off (k := 0) rfl) rfl (by decide) 0 (by decide)) rfl (fun v28 w HF => ?_)))))))))
 obtain ⟨rfl, hc⟩ := HF
 replace hs := hs.frame1 (k := 0) rfl rfl hc
 refine dN rfl rfl (aH (dP (dM rfl rfl (dM rfl rfl (lp (aN rfl) rfl (lp (aR fo_50_4 rfl) rfl (lp (aO rfl (bR (v := .int .u16 0) cB (Vw.cell_in hs.isIn (Vw.cell_of hh rfl)))) rfl (aZ ok_177 rfl rfl (c_packUint16 hs.isIn (hs.g 0 rfl) (hs.off (k := 0) rfl) rfl (by decide) 0 (by decide)) rfl (fun v34 w HF => ?_)))))))))
 obtain ⟨rfl, hc⟩ := HF
 replace hs := hs.frame1 (k := 0) rfl rfl hc
 refine dN rfl rfl (aH (dP (dM rfl rfl (dM rfl rfl (lp (aN rfl) rfl (lp (aR fo_50_5 rfl) rfl (lp (aO rfl (bR (v := .int .u16 0) cB (Vw.cell_in hs.isIn (Vw.cell_of hh rfl)))) rfl (aZ ok_177 rfl rfl (c_packUint16 hs.isIn (hs.g 0 rfl) (hs.off (k := 0) rfl) rfl (by decide) 0 (by decide)) rfl (fun v40 w HF => ?_)))))))))
 obtain ⟨rfl, hc⟩ := HF
 replace hs := hs.frame1 (k := 0) rfl rfl hc
 refine dN rfl rfl (aH (aV ⟨_, res1 rfl, ?_⟩))
 exact ⟨rfl, hs⟩
set_option maxHeartbeats 2000000 in
theorem c_Hpack (hV : V.In w0) {r : List Value} (hh : V bm = some (.cells (headC 7 0 ++ r).toArray EH (0, 0))) :
  CallsV Tryz.prog 151 #[.pointer (some ⟨bm, 0, none⟩)] w0 fun v w' => v = .tuple #[.int .u16 7, .int .u16 0] ∧ St ⟨w0, V, V⟩ w' [] := by
 have hs := St.start hV
 refine aT [_] Tryz.func151 Tryz.ntmps151 Tryz.results151 rfl rfl (dP (dN rfl rfl (dN rfl rfl (aH (dP (dM rfl rfl (lp (aN rfl) rfl (lp (aR fo_58_0 rfl) rfl (lp (aO rfl (bR (v := .int .u16 7) cB (Vw.cell_in hs.isIn (Vw.cell_of hh rfl)))) rfl (dN rfl rfl (aH (aF (e_draw (fun w2 => V.In w2) [3, 8] mixed (fun w hw => ?_))))))))))))))
 replace hs := hw.st hs
 refine dI 0 rfl (fun w => aC rfl) rfl rfl (dI 1 rfl (fun w => aN rfl) rfl rfl (dI 2 rfl (fun w => aR fo_58_2 rfl) rfl rfl (dJ 3 rfl (hs.isIn) rfl (fun w hf => (aO rfl (bR (v := .int .u16 0) k_55 (Vw.cell_in hf (Vw.cell_of hh rfl))))) rfl (dI 4 rfl (fun w => (po_shl rfl rfl (by decide) rfl)) rfl rfl (dI 5 rfl (fun w => aC rfl) rfl rfl (dI 6 rfl (fun w => aN rfl) rfl rfl (dI 7 rfl (fun w => aR fo_58_9 rfl) rfl rfl (dJ 8 rfl (hs.isIn) rfl (fun w hf => (aO rfl (bR (v := .int .u16 0) k_56 (Vw.cell_in hf (Vw.cell_of hh rfl))))) rfl (dI 9 rfl (fun w => po_or rfl rfl rfl) rfl rfl (dI 10 rfl (fun w => aD rfl) rfl rfl (bS (by decide +kernel) (aF (dP ?_)))))))))))))
 refine dM rfl rfl (lp (aN rfl) rfl (lp (aR fo_58_6 rfl) rfl (lp (aO rfl (bR (v := .bool false) k_4 (Vw.cell_in hs.isIn (Vw.cell_of hh rfl)))) rfl (aH (aY rfl rfl (aW (aF (dP (dM rfl rfl (lp (aN rfl) rfl (lp (aR fo_58_5 rfl) rfl (lp (aO rfl (bR (v := .bool false) k_4 (Vw.cell_in hs.isIn (Vw.cell_of hh rfl)))) rfl (aH ?_)))))))))))))
 refine aY rfl rfl (aW (aF (dP (dM rfl rfl (lp (aN rfl) rfl (lp (aR fo_58_4 rfl) rfl (lp (aO rfl (bR (v := .bool false) k_4 (Vw.cell_in hs.isIn (Vw.cell_of hh rfl)))) rfl (aH (aY rfl rfl (aW (aF (dP (dM rfl rfl ?_)))))))))))))
 refine lp (aN rfl) rfl (lp (aR fo_58_3 rfl) rfl (lp (aO rfl (bR (v := .bool false) k_4 (Vw.cell_in hs.isIn (Vw.cell_of hh rfl)))) rfl (aH (aY rfl rfl (aW (aF (dP (dM rfl rfl (lp (aN rfl) rfl (lp (aR fo_58_1 rfl) rfl (lp (aO rfl (bR (v := .bool false) k_4 (Vw.cell_in hs.isIn (Vw.cell_of hh rfl)))) rfl (aH (aY rfl rfl ?_)))))))))))))
 refine aW (aF (dP (dM rfl rfl (lp (aN rfl) rfl (lp (aR fo_58_7 rfl) rfl (lp (aO rfl (bR (v := .bool false) k_4 (Vw.cell_in hs.isIn (Vw.cell_of hh rfl)))) rfl (aH (aY rfl rfl (aW (aF (dP (dM rfl rfl (lp (aN rfl) rfl ?_)))))))))))))
 refine lp (aR fo_58_8 rfl) rfl (lp (aO rfl (bR (v := .bool false) k_4 (Vw.cell_in hs.isIn (Vw.cell_of hh rfl)))) rfl (aH (aY rfl rfl (aW (aV ⟨_, res2 rfl rfl, ?_⟩)))))
 exact ⟨rfl, hs⟩
def pk12 : List UInt8 := [0, 7, 0, 0, 0, 0, 0, 0, 0, 0, 0, 0]
set_option maxHeartbeats 4000000 in
theorem c_AppendPack (hV : V.In w0) {a0 a1 a2 a3 : Option Addr} (hm : V bm = some (.cells (headC 7 0 ++ [Value.slice a0 0 0, .slice a1 0 0, .slice a2 0 0, .slice a3 0 0]).toArray EH (0, 0))) (hown : w0.heap[b]? = some (.cells (pkC []).toArray E (0, 0))) (hvn : V b = none) :
  CallsV Tryz.prog 109 #[.pointer (some ⟨bm, 0, none⟩), .slice (some ⟨b, 0, none⟩) 0 512] w0 fun v w' => v = .tuple #[.slice (some ⟨b, 0, none⟩) 12 512, .nilIface] ∧ St ⟨w0, V, V⟩ w' [(b, .cells (pkC pk12).toArray E (0, 0))] := by
 have hs := St.start1 hV hown (bU _ _) hvn
 refine aT [_, _] Tryz.func109 Tryz.ntmps109 Tryz.results109 rfl rfl (dP (dN rfl rfl (dN rfl rfl (aH (aF (dP (dM rfl rfl (lp (aN rfl) rfl (lp (aR fo_84_1 rfl) rfl (lp (aO rfl (bR (v := .slice a0 0 0) k_81 (Vw.cell_in hs.isIn (Vw.cell_of hm rfl)))) rfl (lp (bC Tryz.underlying81 rfl) rfl (lp (cQ rfl rfl) rfl (aH ?_)))))))))))))
 refine aY rfl ((by decide)) (aW (aF (dP (dM rfl rfl (lp (aN rfl) rfl (lp (aR fo_84_2 rfl) rfl (lp (aO rfl (bR (v := .slice a1 0 0) k_82 (Vw.cell_in hs.isIn (Vw.cell_of hm rfl)))) rfl (lp (bC Tryz.underlying82 rfl) rfl (lp (cQ rfl rfl) rfl (aH (aY rfl ((by decide)) (aW (aF ?_)))))))))))))
 refine dP (dM rfl rfl (lp (aN rfl) rfl (lp (aR fo_84_3 rfl) rfl (lp (aO rfl (bR (v := .slice a2 0 0) k_82 (Vw.cell_in hs.isIn (Vw.cell_of hm rfl)))) rfl (lp (bC Tryz.underlying82 rfl) rfl (lp (cQ rfl rfl) rfl (aH (aY rfl ((by decide)) (aW (aF (dP (dM rfl rfl (lp (aN rfl) rfl ?_)))))))))))))
 refine lp (aR fo_84_4 rfl) rfl (lp (aO rfl (bR (v := .slice a3 0 0) k_82 (Vw.cell_in hs.isIn (Vw.cell_of hm rfl)))) rfl (lp (bC Tryz.underlying82 rfl) rfl (lp (cQ rfl rfl) rfl (aH (aY rfl ((by decide)) (aW (dP (aJ (aX hs z_50 rfl (fun b6 w hb6 he6 hs => aH (dP (dM rfl rfl (lp (aN rfl) rfl (lp (aR fo_84_0 rfl) rfl ?_))))))))))))))
 refine aZ ok_151 rfl rfl (c_Hpack hs.isIn hm) rfl (fun v50 w HF => ?_)
 obtain ⟨rfl, hc⟩ := HF
 replace hs := hs.frame hc
 refine dM rfl rfl (dO rfl rfl rfl (dO rfl rfl rfl (lp (aR fo_50_0 rfl) rfl (aJ (dQ 0 hs cB rfl rfl rfl rfl rfl rfl rfl (fun w hs => lp (aR fo_50_1 rfl) rfl (aJ (dQ 0 hs cB rfl rfl rfl rfl rfl rfl rfl (fun w hs => aH (dP (dM rfl rfl (lp (aN rfl) rfl (lp (aR fo_84_1 rfl) rfl (lp (aO rfl (bR (v := .slice a0 0 0) k_81 (Vw.cell_in hs.isIn (Vw.cell_of hm rfl)))) rfl (lp (bC Tryz.underlying81 rfl) rfl ?_)))))))))))))))
 refine lp (bY Tryz.underlying3 Tryz.underlying27 rfl rfl) rfl (lp (aR fo_50_2 rfl) rfl (aJ (dQ 0 hs cB rfl rfl rfl rfl rfl rfl rfl (fun w hs => aH (dP (dM rfl rfl (lp (aN rfl) rfl (lp (aR fo_84_2 rfl) rfl (lp (aO rfl (bR (v := .slice a1 0 0) k_82 (Vw.cell_in hs.isIn (Vw.cell_of hm rfl)))) rfl (lp (bC Tryz.underlying82 rfl) rfl (lp (bY Tryz.underlying3 Tryz.underlying27 rfl rfl) rfl (lp (aR fo_50_3 rfl) rfl (aJ (dQ 0 hs cB rfl rfl rfl rfl rfl rfl rfl (fun w hs => aH ?_)))))))))))))))
 refine dP (dM rfl rfl (lp (aN rfl) rfl (lp (aR fo_84_3 rfl) rfl (lp (aO rfl (bR (v := .slice a2 0 0) k_82 (Vw.cell_in hs.isIn (Vw.cell_of hm rfl)))) rfl (lp (bC Tryz.underlying82 rfl) rfl (lp (bY Tryz.underlying3 Tryz.underlying27 rfl rfl) rfl (lp (aR fo_50_4 rfl) rfl (aJ (dQ 0 hs cB rfl rfl rfl rfl rfl rfl rfl (fun w hs => aH (dP (dM rfl rfl (lp (aN rfl) rfl (lp (aR fo_84_4 rfl) rfl ?_))))))))))))))
 refine lp (aO rfl (bR (v := .slice a3 0 0) k_82 (Vw.cell_in hs.isIn (Vw.cell_of hm rfl)))) rfl (lp (bC Tryz.underlying82 rfl) rfl (lp (bY Tryz.underlying3 Tryz.underlying27 rfl rfl) rfl (lp (aR fo_50_5 rfl) rfl (aJ (dQ 0 hs cB rfl rfl rfl rfl rfl rfl rfl (fun w hs => aH (dP (dM rfl rfl (lp (bC Tryz.underlying22 rfl) rfl (dN rfl rfl (aH (aF ?_))))))))))))
 replace hs : St ⟨w0, V, V⟩ _ [(b6, .cells (hdrZ 7).toArray 50 (0, 0)), (b, .cells (pkC []).toArray E (0, 0))] := hs
 obtain ⟨V1, hle1, hv6, hs⟩ := St.give hs hb6
 replace hm := hle1 _ _ hm
 refine aB (dM rfl rfl (aZ ok_152 rfl rfl (c_hpack hs.isIn hv6 (hs.g 0 rfl) (hs.off (k := 0) rfl)) rfl (fun v86 w HF => ?_)))
 obtain ⟨rfl, hc⟩ := HF
 replace hs := hs.frame1 (k := 0) rfl rfl hc
 refine dN rfl rfl (aH (dP (aJ (o_makeMap hs rfl (fun b87 w hb87 hs => ?_)))))
 replace hs := hs.drop hb87
 refine dN rfl rfl (aH (aF (dP (dM rfl rfl (lp (aN rfl) rfl (lp (aR fo_84_1 rfl) rfl (lp (aO rfl (bR (v := .slice a0 0 0) k_81 (Vw.cell_in hs.isIn (Vw.cell_of hm rfl)))) rfl (lp (bC Tryz.underlying81 rfl) rfl (dM rfl rfl (aH (bQ (dC (fun _ : Nat => upd (upd (upd (upd emp 93 (.int .i64 0)) 92 (.int .i64 0)) 8 (.slice (some ⟨b, 0, none⟩) 12 512)) 0 (.pointer (some ⟨bm, 0, none⟩))) (fun _ w' => St ⟨w0, V, V1⟩ w' [(b, .cells (pkC [0, 7, 0, 0, 0, 0, 0, 0, 0, 0, 0, 0]).toArray E (0, 0))]) (fun _ => 0) 0 (aL rfl (aL rfl (aL rfl (aL rfl (bG _))))) hs ?_))))))))))))
 clear hs
 rintro _ w hs
 refine dP (lp (cY rfl rfl) rfl (aH (aF (aY rfl ((by decide)) (e_exit (aF (dP (dM rfl rfl (lp (aN rfl) rfl (lp (aR fo_84_2 rfl) rfl (lp (aO rfl (bR (v := .slice a1 0 0) k_82 (Vw.cell_in hs.isIn (Vw.cell_of hm rfl)))) rfl (lp (bC Tryz.underlying82 rfl) rfl (dM rfl rfl ?_)))))))))))))
 refine aH (bQ (dC (fun _ : Nat => upd (upd (upd (upd emp 121 (.int .i64 0)) 120 (.int .i64 0)) 8 (.slice (some ⟨b, 0, none⟩) 12 512)) 0 (.pointer (some ⟨bm, 0, none⟩))) (fun _ w' => St ⟨w0, V, V1⟩ w' [(b, .cells (pkC [0, 7, 0, 0, 0, 0, 0, 0, 0, 0, 0, 0]).toArray E (0, 0))]) (fun _ => 0) 0 (aL rfl (aL rfl (aL rfl (aL rfl (bG _))))) hs ?_))
 clear hs
 rintro _ w hs
 refine dP (lp (cY rfl rfl) rfl (aH (aF (aY rfl ((by decide)) (e_exit (aF (dP (dM rfl rfl (lp (aN rfl) rfl (lp (aR fo_84_3 rfl) rfl (lp (aO rfl (bR (v := .slice a2 0 0) k_82 (Vw.cell_in hs.isIn (Vw.cell_of hm rfl)))) rfl (lp (bC Tryz.underlying82 rfl) rfl (dM rfl rfl ?_)))))))))))))
 refine aH (bQ (dC (fun _ : Nat => upd (upd (upd (upd emp 149 (.int .i64 0)) 148 (.int .i64 0)) 8 (.slice (some ⟨b, 0, none⟩) 12 512)) 0 (.pointer (some ⟨bm, 0, none⟩))) (fun _ w' => St ⟨w0, V, V1⟩ w' [(b, .cells (pkC [0, 7, 0, 0, 0, 0, 0, 0, 0, 0, 0, 0]).toArray E (0, 0))]) (fun _ => 0) 0 (aL rfl (aL rfl (aL rfl (aL rfl (bG _))))) hs ?_))
 clear hs
 rintro _ w hs
 refine dP (lp (cY rfl rfl) rfl (aH (aF (aY rfl ((by decide)) (e_exit (aF (dP (dM rfl rfl (lp (aN rfl) rfl (lp (aR fo_84_4 rfl) rfl (lp (aO rfl (bR (v := .slice a3 0 0) k_82 (Vw.cell_in hs.isIn (Vw.cell_of hm rfl)))) rfl (lp (bC Tryz.underlying82 rfl) rfl (dM rfl rfl ?_)))))))))))))
 refine aH (bQ (dC (fun _ : Nat => upd (upd (upd (upd emp 177 (.int .i64 0)) 176 (.int .i64 0)) 8 (.slice (some ⟨b, 0, none⟩) 12 512)) 0 (.pointer (some ⟨bm, 0, none⟩))) (fun _ w' => St ⟨w0, V, V1⟩ w' [(b, .cells (pkC [0, 7, 0, 0, 0, 0, 0, 0, 0, 0, 0, 0]).toArray E (0, 0))]) (fun _ => 0) 0 (aL rfl (aL rfl (aL rfl (aL rfl (bG _))))) hs ?_))
 clear hs
 rintro _ w hs
 refine dP (lp (cY rfl rfl) rfl (aH (aF (aY rfl ((by decide)) (e_exit (dP (dM rfl rfl (dN rfl rfl (dN rfl rfl (aH (aV ⟨_, res2 rfl rfl, ?_⟩)))))))))))
 exact ⟨rfl, hs.less⟩
end
end Go.Proofs.YtmigokakpahgkaaGreatDoor
namespace Go.Proofs.YtmigokakpahgkaaGreatDoor
open Go
section
variable {A : Nat → Addr} {V : Vw} {w0 : World} {bm : Nat} {EH : TypeId}
theorem c_headerOf (hV : V.In w0) (id bits : Nat) : CallsV Tryz.prog 107 #[.agg (headC id bits).toArray] w0 fun v w' => v = .agg (headC id bits).toArray ∧ St ⟨w0, V, V⟩ w' [] := by
 have hs := St.start hV
 refine aT [_] Tryz.func107 Tryz.ntmps107 Tryz.results107 rfl rfl (dP (aJ (cR hs rfl rfl rfl (fun b1 w hb1 hbe1 hs => aJ (aX hs z_58 rfl (fun b2 w hb2 he2 hs => aH (dP (lp (aR fo_29_0 rfl) rfl (lp (aO rfl (aQ cB (hs.g 1 rfl) rfl)) rfl (lp (aR fo_29_1 rfl) rfl (lp (aO rfl (aQ k_4 (hs.g 1 rfl) rfl)) rfl (lp (aR fo_29_2 rfl) rfl (lp (aO rfl (aQ cB (hs.g 1 rfl) rfl)) rfl (lp (aR fo_29_3 rfl) rfl (lp (aO rfl (aQ k_4 (hs.g 1 rfl) rfl)) rfl ?_)))))))))))))))
 refine lp (aR fo_29_4 rfl) rfl (lp (aO rfl (aQ k_4 (hs.g 1 rfl) rfl)) rfl (lp (aR fo_29_5 rfl) rfl (lp (aO rfl (aQ k_4 (hs.g 1 rfl) rfl)) rfl (lp (aR fo_29_6 rfl) rfl (lp (aO rfl (aQ k_4 (hs.g 1 rfl) rfl)) rfl (lp (aR fo_29_7 rfl) rfl (lp (aO rfl (aQ k_4 (hs.g 1 rfl) rfl)) rfl (lp (aR fo_29_8 rfl) rfl (lp (aO rfl (aQ k_4 (hs.g 1 rfl) rfl)) rfl (lp (aR fo_29_9 rfl) rfl (lp (aO rfl (aQ cB (hs.g 1 rfl) rfl)) rfl (lp (bL rfl (by rfl) (bu_58_0_1_2_3_4_5_6_7_8_9 _ _ _ _ _ _ _ _ _ _)) rfl (aJ (dR 0 hs k_58 rfl rfl rfl (by simp) (by simp) (aG rfl) rfl (fun w hs => ?_)))))))))))))))
 refine aH (aV ⟨_, res1 ⟨_, rfl, aP k_58 (hs.g 0 rfl) rfl⟩, ?_⟩)
 exact ⟨rfl, (hs.drop hb2).drop hb1⟩
theorem c_resourcesOf0 (hV : V.In w0) : CallsV Tryz.prog 108 #[.slice none 0 0] w0 fun v w' => (∃ a, v = .slice a 0 0) ∧ St ⟨w0, V, V⟩ w' [] := by
 have hs := St.start hV
 refine aT [_] Tryz.func108 Tryz.ntmps108 Tryz.results108 rfl rfl (dP (dN rfl rfl (aH (dP (aJ (o_bslice0 es_82 hs rfl (fun b6 w hb6 he6 hs => ?_)))))))
 replace hs := hs.drop hb6
 refine dN rfl rfl (aH (aF (dP (dM rfl rfl (lp (bC Tryz.underlying31 rfl) rfl (dM rfl rfl (aH (bQ (dC (fun _ : Nat => upd (upd (upd emp 9 (.int .i64 0)) 8 (.int .i64 0)) 3 (.slice (some ⟨b6, 0, none⟩) 0 0)) (fun _ w' => St ⟨w0, V, V⟩ w' []) (fun _ => 0) 0 (aL rfl (aL rfl (aL rfl (bG _)))) hs ?_)))))))))
 clear hs
 rintro _ w hs
 refine dP (lp (cY rfl rfl) rfl (aH (aF (aY rfl ((by decide)) (e_exit (dP (dM rfl rfl (dN rfl rfl (aH (aV ⟨_, res1 rfl, ?_⟩))))))))))
 exact ⟨⟨_, rfl⟩, hs⟩
def nilsL : List Value := [.slice none 0 0, .slice none 0 0, .slice none 0 0, .slice none 0 0]
set_option maxHeartbeats 1000000 in
theorem c_messageOf0 (hV : V.In w0) : CallsV Tryz.prog 40 #[.agg (headC 7 0 ++ nilsL).toArray] w0 fun v w' => (∃ a0 a1 a2 a3 : Option Addr, v = .agg (headC 7 0 ++ [Value.slice a0 0 0, .slice a1 0 0, .slice a2 0 0, .slice a3 0 0]).toArray) ∧ St ⟨w0, V, V⟩ w' [] := by
 have hs := St.start hV
 refine aT [_] Tryz.func40 Tryz.ntmps40 Tryz.results40 rfl rfl (dP (aJ (cR hs rfl rfl rfl (fun b1 w hb1 hbe1 hs => aJ (aX hs z_84 rfl (fun b2 w hb2 he2 hs => ?_))))))
 replace hs : St ⟨w0, V, V⟩ _ [(b2, .cells (headC 0 0 ++ nilsL).toArray 84 (0, 0)), (b1, .cells (headC 7 0 ++ nilsL).toArray 42 (0, 0))] := hs
 refine aH (dP (aJ (o_bslice0 es_81 hs rfl (fun b6 w hb6 he6 hs => ?_))))
 replace hs := hs.drop hb6
 refine dN rfl rfl (aH (aF (dP (lp (aR fo_42_1 rfl) rfl (lp (aO rfl (cT (a := headC 7 0) (l := nilsL) (i := 0) k_30 (hs.g 1 rfl) rfl rfl rfl)) rfl (lp (bC Tryz.underlying30 rfl) rfl (dM rfl rfl (aH (bQ (dC (fun _ : Nat => upd (upd (upd (upd (upd emp 10 (.int .i64 0)) 9 (.int .i64 0)) 3 (.slice (some ⟨b6, 0, none⟩) 0 0)) 2 (.pointer (some ⟨b2, 0, none⟩))) 1 (.pointer (some ⟨b1, 0, none⟩))) (fun _ w' => St ⟨w0, V, V⟩ w' [(b2, .cells (headC 0 0 ++ nilsL).toArray 84 (0, 0)), (b1, .cells (headC 7 0 ++ nilsL).toArray 42 (0, 0))]) (fun _ => 0) 0 (aL rfl (aL rfl (aL rfl (aL rfl (aL rfl (bG _)))))) hs ?_))))))))))
 clear hs
 rintro _ w hs
 refine dP (lp (cY rfl rfl) rfl (aH (aF (aY rfl ((by decide)) (e_exit (aF (e_draw (fun w2 => w2.heap[b1]? = some (.cells (headC 7 0 ++ nilsL).toArray 42 (0, 0))) [1, 5, 8, 11] mixed (fun w hw => ?_))))))))
 replace hs := hw.st hs
 refine dI 0 rfl (fun w => aR fo_42_0 rfl) rfl rfl (dJ 1 rfl (hs.g 1 rfl) rfl (fun w hf => (aO rfl (ld_hd (a := headC 7 0) k_29 hf rfl))) rfl (dI 3 rfl (fun w => aC rfl) rfl rfl (dI 4 rfl (fun w => aR fo_42_2 rfl) rfl rfl (dJ 5 rfl (hs.g 1 rfl) rfl (fun w hf => (aO rfl (cT (a := headC 7 0) (l := nilsL) k_31 hf rfl (i := 1) rfl rfl))) rfl (dI 7 rfl (fun w => aR fo_42_3 rfl) rfl rfl (dJ 8 rfl (hs.g 1 rfl) rfl (fun w hf => (aO rfl (cT (a := headC 7 0) (l := nilsL) k_31 hf rfl (i := 2) rfl rfl))) rfl (dI 10 rfl (fun w => aR fo_42_4 rfl) rfl rfl (dJ 11 rfl (hs.g 1 rfl) rfl (fun w hf => (aO rfl (cT (a := headC 7 0) (l := nilsL) k_31 hf rfl (i := 3) rfl rfl))) rfl (dL 2 rfl (cF (cD rfl rfl ok_107 (c_headerOf hs.isIn 7 0)) rfl (fun v22 w HF => ?_)))))))))))
 obtain ⟨rfl, hc⟩ := HF
 replace hs := hs.frame hc
 refine ⟨fun _ => hs.g 1 rfl, dL 6 rfl (cF (cD rfl rfl ok_108 (c_resourcesOf0 hs.isIn)) rfl (fun v26 w HF => ?_))⟩
 obtain ⟨⟨a1, rfl⟩, hc⟩ := HF
 replace hs := hs.frame hc
 refine ⟨fun _ => hs.g 1 rfl, dL 9 rfl (cF (cD rfl rfl ok_108 (c_resourcesOf0 hs.isIn)) rfl (fun v29 w HF => ?_))⟩
 obtain ⟨⟨a2, rfl⟩, hc⟩ := HF
 replace hs := hs.frame hc
 refine ⟨fun _ => hs.g 1 rfl, dL 12 rfl (cF (cD rfl rfl ok_108 (c_resourcesOf0 hs.isIn)) rfl (fun v32 w HF => ?_))⟩
 obtain ⟨⟨a3, rfl⟩, hc⟩ := HF
 replace hs := hs.frame hc
 refine ⟨fun _ => hs.g 1 rfl, dI 13 rfl (fun w => (po_buildG [headC 7 0, [.slice (some ⟨b6, 0, none⟩) 0 0], [.slice a1 0 0], [.slice a2 0 0], [.slice a3 0 0]] st_84 rfl rfl rfl rfl rfl)) rfl rfl (dL 14 rfl (dR 0 hs k_84 rfl rfl rfl rfl rfl (aG rfl) rfl (fun w hs => ⟨fun h => absurd h (by decide +kernel), bS (by decide +kernel) (aV ⟨_, res1 ⟨_, rfl, aP k_84 (hs.g 0 rfl) rfl⟩, ?_⟩)⟩)))⟩
 exact ⟨⟨_, _, _, _, rfl⟩, (hs.drop hb2).drop hb1⟩
set_option maxHeartbeats 1000000 in
theorem c_MPack (hV : V.In w0) {a0 a1 a2 a3 : Option Addr} (hm : V bm = some (.cells (headC 7 0 ++ [Value.slice a0 0 0, .slice a1 0 0, .slice a2 0 0, .slice a3 0 0]).toArray EH (0, 0))) :
  CallsV Tryz.prog 41 #[.pointer (some ⟨bm, 0, none⟩)] w0 fun v w' => ∃ (V' : Vw) (x : Value), v = .tuple #[x, .nilIface] ∧ St ⟨w0, V, V'⟩ w' [] ∧ RB V' x pk12 := by
 have hs := St.start hV
 refine aT [_] Tryz.func41 Tryz.ntmps41 Tryz.results41 rfl rfl (dP (dN rfl rfl (dN rfl rfl (aH (dP (dM rfl rfl (aJ (o_make (c := 512) (l := 0) el_22 hs rfl rfl rfl rfl (by decide) (by decide) (by decide) rfl (fun b5 w hb5 he5 hs => ?_)))))))))
 rw [made_one] at hs
 replace hs : St ⟨w0, V, V⟩ w [(b5, .cells (pkC []).toArray 5 (0, 0))] := hs
 refine aZ ok_109 rfl rfl (c_AppendPack hs.isIn hm (hs.g 0 rfl) (hs.off (k := 0) rfl)) rfl (fun v6 w HF => ?_)
 obtain ⟨rfl, hc⟩ := HF
 replace hs := hs.frame1 (k := 0) rfl rfl hc
 obtain ⟨V1, hle1, hv5, hs⟩ := St.give hs hb5
 refine dO rfl rfl rfl (dO rfl rfl rfl (dN rfl rfl (dN rfl rfl (aH (aV ⟨_, res2 rfl rfl, ?_⟩)))))
 exact ⟨V1, _, rfl, hs, SlV.cells (xs := pk12.map byteVal) (sp := List.replicate 500 (.int .u8 0)) hv5 rfl (by decide)⟩
set_option maxHeartbeats 1000000 in
theorem c_Pack0 (hV : V.In w0) : CallsV Tryz.prog 21 #[.agg (headC 7 0 ++ nilsL).toArray] w0 fun v w' => ∃ (V' : Vw) (x : Value), v = .tuple #[x, .bool true] ∧ St ⟨w0, V, V'⟩ w' [] ∧ RB V' x pk12 := by
 have hs := St.start hV
 refine aT [_] Tryz.func21 Tryz.ntmps21 Tryz.results21 rfl rfl (dP (aJ (cR hs rfl rfl rfl (fun b1 w hb1 hbe1 hs => dN rfl rfl (dN rfl rfl (aH (dP (lp (aO rfl (aP k_42 (hs.g 0 rfl) rfl)) rfl (aZ ok_40 rfl rfl (c_messageOf0 hs.isIn) rfl (fun v8 w HF => ?_))))))))))
 obtain ⟨⟨a0, a1, a2, a3, rfl⟩, hc⟩ := HF
 replace hs := hs.frame hc
 refine aJ (aX hs z_84 rfl (fun b4 w hb4 he4 hs => aJ (dR 0 hs k_84 rfl rfl rfl rfl rfl (aG rfl) rfl (fun w hs => ?_))))
 obtain ⟨V1, hle1, hv4, hs⟩ := St.give hs hb4
 refine aH (dP (aZ ok_41 rfl rfl (c_MPack hs.isIn hv4) rfl (fun v10 w HF => ?_)))
 obtain ⟨V2, x, rfl, hc, hx⟩ := HF
 replace hs := hs.frame hc
 refine dM rfl rfl (dO rfl rfl rfl (dO rfl rfl rfl (dN rfl rfl (dN rfl rfl (aH (aF (aF ?_)))))))
 have he : ErrV (fun _ => ⟨0, 0, none⟩) .nilIface .ok := rfl
 refine aB (dM rfl rfl (lp (bB he rfl) rfl (aH (aY rfl ((by decide)) (aW (dP (dM rfl rfl (dN rfl rfl (dN rfl rfl (aH (aV ⟨_, res2 rfl rfl, ?_⟩)))))))))))
 exact ⟨V2, _, rfl, hs.drop hb1, hx⟩
theorem unpack12 : unpackM pk12 = some { id := 7 } := by
 rw [unpackM_eq]; kernel_rfl
theorem parse12 : (parseM pk12 [1]).length = 1 := by
 kernel_rfl
set_option maxHeartbeats 2000000 in
theorem c_packs (hG : Gl A V) (hV : V.In w0) : CallsV Tryz.prog 12 #[] w0 fun v w' => v = .bool true ∧ ∃ V', St ⟨w0, V, V'⟩ w' [] := by
 have hs := St.start hV
 have hg : true = true := rfl
 refine aT [] Tryz.func12 Tryz.ntmps12 Tryz.results12 rfl rfl (dP (dN rfl rfl (aH (dP (lp (bL rfl (by rfl) (bu_29_0 _)) rfl (lp (po_buildL (cls := [headC 7 0]) rfl rfl (bg_42_0 _ _ _ _ _ _ _ _ _ _)) rfl (aZ ok_21 rfl rfl (c_Pack0 hs.isIn) rfl (fun v8 w HF => ?_))))))))
 obtain ⟨V1, x, rfl, hc, hx⟩ := HF
 replace hs := hs.frame hc
 refine dM rfl rfl (dO rfl rfl rfl (dO rfl rfl rfl (dN rfl rfl (dN rfl rfl (aH (dP (dM rfl rfl (aZ ok_18 rfl rfl (c_unpack (hG.mono hs.view) hs.isIn hx (by decide)) rfl (fun v13 w HF => ?_)))))))))
 obtain ⟨V2, mcs, ok, y, rfl, hc, hRM, hun⟩ := HF
 replace hs := hs.frame hc
 have hle2 := hc.view
 obtain ⟨rfl, rfl⟩ : ok = true ∧ y = { id := 7 } := by
  rcases hun with ⟨h1, h2⟩ | ⟨_, h2, _⟩
  rw [unpack12] at h2; cases h2; exact ⟨h1, rfl⟩
  rw [unpack12] at h2; cases h2
 refine dM rfl rfl (dO rfl rfl rfl (dO rfl rfl rfl (aJ (aX hs z_42 rfl (fun b3 w hb3 he3 hs => aJ (dR 0 hs k_42 rfl rfl rfl hRM.flat.2 rfl hRM.flat.1 rfl (fun w hs => dN rfl rfl (aH (aF ?_)))))))))
 skip
 obtain ⟨q0, q1, q2, q3, rfl, _⟩ := hRM
 refine aB (dM rfl rfl (dM rfl rfl (lg rfl rfl hg (aC rfl) rfl (lp (bO rfl rfl rfl) rfl (dM rfl rfl (lg rfl rfl hg (aR fo_42_0 rfl) rfl (lg rfl rfl hg (aR fo_29_0 rfl) rfl (lg rfl rfl hg (aO rfl (bR (v := .int .u16 7) cB (by rw [cell_list (hs.g 0 rfl)]; rfl))) rfl (lg rfl rfl hg (po_eqi rfl rfl) rfl (lp (bO rfl rfl rfl) rfl (dM rfl rfl (lg rfl rfl hg (aC rfl) rfl (cX rfl rfl hg (o_bslice (vls := [[.int .i64 1]]) el_24 hs rfl rfl rfl rfl (by simp) (by decide) (by decide) rfl (fun b28 w hb28 he28 hs => ?_)))))))))))))))
 obtain ⟨V3, hle3, hv28, hs⟩ := St.give hs hb28
 have hst : SlV V3 1 (.slice (some ⟨b28, 0, none⟩) 1 1) 1 (([1] : List Int).map fun i => .int .i64 i) := SlV.cells (sp := []) hv28 rfl (by decide)
 refine cX rfl rfl hg (cF (cD rfl rfl ok_13 (c_parse (hG.mono hs.view) hs.isIn (hx.mono (Vw.le_trans hle2 hle3)) (by decide) hst (by decide))) rfl (fun v29 w HF => ?_))
 obtain ⟨V4, hc, xs, hS, _⟩ := HF
 rw [parse12] at hS
 obtain ⟨a1, c1, rfl, _⟩ := hS.form
 replace hs := hs.frame hc
 refine lg rfl rfl hg (bC Tryz.underlying25 rfl) rfl (lg rfl rfl hg (po_eqi rfl rfl) rfl (lp (bO rfl rfl rfl) rfl (dN rfl rfl (aH (aV ⟨_, res1 rfl, ?_⟩)))))
 exact ⟨rfl, _, hs.drop hb3⟩
end
end Go.Proofs.YtmigokakpahgkaaGreatDoor
namespace Go.Proofs.YtmigokakpahgkaaGreatDoor
open Go
def HL (m : PM) : Prop := m.hlen ≤ 65536
section
variable {b : List UInt8} {m m' k : PM} {s : Nat}
theorem advance_hl (hm : HL m) : HL (advance b m s).2 := by
  unfold advance
  split
  · exact hm
  · split
    · exact hm
    · split <;> exact hm
theorem header_few {i e : Nat} {r : PRec} (h : header b i = some (r, e)) : FewR r ∧ r.length ≤ 65536 := by
  simp only [header, Option.bind_eq_some_iff, Option.map_eq_some_iff] at h
  obtain ⟨x, h1, t, h2, c, h3, ttl, h4, len, h5, h6⟩ := h
  cases h6
  refine ⟨⟨Nat.zero_le _, Nat.zero_le _⟩, ?_⟩
  unfold rd16 at h5
  split at h5
  · cases h5
    exact Nat.le_of_lt (w16_lt b _)
  · cases h5
theorem askM_hl (hm : HL m) : HL (askM b m).2.2 := by
  have h1 := advance_hl (b := b) (s := 1) hm
  unfold askM
  split
  · rename_i m1 he; rw [he] at h1; split <;> exact h1
  · rename_i he; rw [he] at h1; exact h1
theorem passAskM_hl (hm : HL m) : HL (passAskM b m).2 := by
  have h1 := advance_hl (b := b) (s := 1) hm
  unfold passAskM
  split
  · rename_i m1 he; rw [he] at h1; split <;> exact h1
  · rename_i he; rw [he] at h1; exact h1
theorem beginM_hl (hm : HL m) : HL (beginM b m s).2.2 ∧ ∀ r, (beginM b m s).2.1 = some r → FewR r ∧ r.length ≤ 65536 := by
  have h0 : HL (if m.valid then { m with at_ := m.headAt } else m) := by split <;> exact hm
  have h1 := advance_hl (b := b) (s := s) h0
  unfold beginM
  split
  · rename_i m1 he
    rw [he] at h1
    split
    · rename_i r e hh
      have := header_few hh
      exact ⟨this.2, fun r' hr => by cases hr; exact this⟩
    · exact ⟨h1, fun r hr => by cases hr⟩
  · rename_i he; rw [he] at h1; exact ⟨h1, fun r hr => by cases hr⟩
theorem whole_few {r h : PRec} (hr : FewR r) : FewR (whole r h) := hr
theorem small_few {r : PRec} (h : Small r) : FewR r := ⟨by have := h.2.1; omega, by have := h.2.2.1; omega⟩
theorem recordM_hl (hm : HL m) : HL (recordM b m s).2.2 ∧ ∀ r, (recordM b m s).2.1 = some r → FewR r := by
  have h1 := beginM_hl (b := b) (s := s) hm
  unfold recordM
  split
  · rename_i h m1 he
    rw [he] at h1
    have h2 := h1.2 h rfl
    split
    · rename_i r hr
      exact ⟨h1.1, fun r' hr' => by cases hr'; exact whole_few (small_few (body_small hr h2.2))⟩
    · exact ⟨h1.1, fun r hr => by cases hr⟩
  · rename_i he; rw [he] at h1; exact ⟨h1.1, fun r hr => by cases hr⟩
theorem passM_hl (hm : HL m) : HL (passM b m s).2 := by
  have h1 := advance_hl (b := b) (s := s) hm
  unfold passM
  split
  · split <;> exact hm
  · split
    · rename_i m1 he; rw [he] at h1; split <;> exact h1
    · rename_i he; rw [he] at h1; exact h1
theorem bodyM_hl {kind : Nat} (hm : HL m) : HL (bodyM b m kind).2.2 ∧ ∀ r, (bodyM b m kind).2.1 = some r → FewR r := by
  unfold bodyM
  split
  · exact ⟨hm, fun r hr => by cases hr⟩
  · split
    · rename_i r hr
      refine ⟨hm, fun r' hr' => ?_⟩
      cases hr'
      have := small_few (body_small hr hm)
      split <;> exact this
    · exact ⟨hm, fun r hr => by cases hr⟩
theorem allAsks_hl : ∀ (n : Nat) (m : PM) (acc : List PAsk), HL m → HL (allAsks b n m acc).2.2
  | 0, m, acc, hm => hm
  | n + 1, m, acc, hm => by
    have h1 := askM_hl (b := b) hm
    unfold allAsks
    split <;> rename_i he <;> rw [he] at h1
    · exact allAsks_hl n _ _ h1
    · exact h1
    · exact h1
    · exact h1
theorem allRecs_hl : ∀ (n : Nat) (m : PM) (acc : List PRec), HL m → (∀ r ∈ acc, FewR r) → HL (allRecs b s n m acc).2.2 ∧ ∀ r ∈ (allRecs b s n m acc).2.1, FewR r
  | 0, m, acc, hm, ha => ⟨hm, ha⟩
  | n + 1, m, acc, hm, ha => by
    have h1 := recordM_hl (b := b) (s := s) hm
    unfold allRecs
    split <;> rename_i he <;> rw [he] at h1
    · refine allRecs_hl n _ _ h1.1 (fun r hr => ?_)
      rcases List.mem_append.1 hr with hr | hr
      · exact ha r hr
      · simp at hr; subst hr; exact h1.2 _ rfl
    · exact ⟨h1.1, fun r hr => by cases hr⟩
    · exact ⟨h1.1, ha⟩
    · exact ⟨h1.1, fun r hr => by cases hr⟩
theorem allPassAsk_hl : ∀ (n : Nat) (m : PM), HL m → HL (allPassAsk b n m).2
  | 0, m, hm => hm
  | n + 1, m, hm => by
    have h1 := passAskM_hl (b := b) hm
    unfold allPassAsk
    split <;> rename_i he <;> rw [he] at h1
    · exact allPassAsk_hl n _ h1
    · exact h1
    · exact h1
theorem allPass_hl : ∀ (n : Nat) (m : PM), HL m → HL (allPass b s n m).2
  | 0, m, hm => hm
  | n + 1, m, hm => by
    have h1 := passM_hl (b := b) (s := s) hm
    unfold allPass
    split <;> rename_i he <;> rw [he] at h1
    · exact allPass_hl n _ h1
    · exact h1
    · exact h1
theorem onlyRec_few {k : EK} {ro : Option PRec} (h : ∀ r, ro = some r → FewR r) : FewS (onlyRec k ro) := by
  refine ⟨Nat.zero_le _, ?_, ?_⟩
  · unfold onlyRec; dsimp only; split <;> simp
  · unfold onlyRec; dsimp only
    split
    · rename_i r; intro x hx; simp at hx; subst hx; exact h _ rfl
    · intro x hx; cases hx
theorem fewS0 {f id bits : Nat} : FewS { fault := f, id := id, bits := bits } := ⟨Nat.zero_le _, Nat.zero_le _, fun _ h => by cases h⟩
theorem questionM_hl {st : Nat} (hm : HL m) : HL (questionM b m st).2 ∧ FewS (questionM b m st).1 := by
  unfold questionM
  split
  · refine ⟨askM_hl hm, ?_, Nat.zero_le _, fun _ h => by cases h⟩
    dsimp only; split <;> simp
  · split
    · refine ⟨allAsks_hl _ _ _ hm, ?_, Nat.zero_le _, fun _ h => by cases h⟩
      dsimp only
      split
      · have := asks_few (l := b) (m1 := m) (k := (allAsks b fuel m []).1) (al := (allAsks b fuel m []).2.1) (m2 := (allAsks b fuel m []).2.2) rfl
        omega
      · exact Nat.zero_le _
    · split
      · exact ⟨passAskM_hl hm, fewS0⟩
      · exact ⟨allPassAsk_hl _ _ hm, fewS0⟩
theorem partM_hl {st : Nat} (hm : HL m) : HL (partM b m s st).2 ∧ FewS (partM b m s st).1 := by
  unfold partM
  split
  · have := beginM_hl (b := b) (s := s) hm
    exact ⟨this.1, onlyRec_few fun r h => (this.2 r h).1⟩
  · split
    · have := recordM_hl (b := b) (s := s) hm
      exact ⟨this.1, onlyRec_few this.2⟩
    · split
      · have h1 := allRecs_hl (b := b) (s := s) fuel m [] hm (fun _ h => by cases h)
        refine ⟨h1.1, Nat.zero_le _, ?_, ?_⟩
        · dsimp only
          split
          · have := recs_few (l := b) (s := s) (m1 := m) (k := (allRecs b s fuel m []).1) (r1 := (allRecs b s fuel m []).2.1) (m2 := (allRecs b s fuel m []).2.2) rfl
            omega
          · exact Nat.zero_le _
        · dsimp only
          split
          · exact h1.2
          · intro r h; cases h
      · split
        · exact ⟨passM_hl hm, fewS0⟩
        · exact ⟨allPass_hl _ _ hm, fewS0⟩
theorem stepM_hl {st : Int} (hm : HL m) (hk : HL k) : HL (stepM b m k st).2.1 ∧ HL (stepM b m k st).2.2 ∧ FewS (stepM b m k st).1 := by
  have h0 : HL {} := by unfold HL; decide
  unfold stepM
  split
  · refine ⟨?_, hk, ?_⟩
    · show HL (startM b).2
      unfold startM; split
      · exact h0
      · exact Nat.zero_le _
    · show FewS (startM b).1
      unfold startM; split <;> exact fewS0
  · split
    · have := questionM_hl (b := b) (st := st.toNat) hm
      exact ⟨this.1, hk, this.2⟩
    · split
      · have := partM_hl (b := b) (s := 2 + (st.toNat - 6) / 5) (st := (st.toNat - 6) % 5) hm
        exact ⟨this.1, hk, this.2⟩
      · split
        · have := bodyM_hl (b := b) (kind := st.toNat - 20) hm
          exact ⟨this.1, hk, onlyRec_few this.2⟩
        · split
          · exact ⟨hm, hm, fewS0⟩
          · split
            · exact ⟨hk, hk, fewS0⟩
            · exact ⟨hm, hk, fewS0⟩
theorem runM_few : ∀ (xs : List Int) (m k : PM), HL m → HL k → ∀ s ∈ runM b m k xs, FewS s
  | [], _, _, _, _ => fun s h => by cases h
  | x :: xs, m, k, hm, hk => fun s h => by
    have h1 := stepM_hl (b := b) (st := x) hm hk
    rw [runM] at h
    rcases List.mem_cons.1 h with rfl | h
    · exact h1.2.2
    · exact runM_few xs _ _ h1.1 h1.2.1 s h
theorem parseM_few (xs : List Int) : ∀ s ∈ parseM b xs, FewS s := runM_few xs _ _ (by unfold HL; decide) (by unfold HL; decide)
theorem parseM_len (xs : List Int) : (parseM b xs).length = xs.length := runM_len b xs _ _
theorem unpackM_few {x : PMsg} (h : unpackM b = some x) : FewM x := by
  obtain ⟨s0, s1, s2, s3, s4, hp⟩ : ∃ s0 s1 s2 s3 s4, parseM b [1, 3, 8, 13, 18] = [s0, s1, s2, s3, s4] := ⟨_, _, _, _, _, parse5 b⟩
  have hf := parseM_few (b := b) [1, 3, 8, 13, 18]
  rw [hp] at hf
  rw [unpackM_of hp] at h
  split at h
  · cases h
    exact ⟨(hf s1 (by simp)).1, (hf s2 (by simp)).2, (hf s3 (by simp)).2, (hf s4 (by simp)).2⟩
  · cases h
theorem fewM0 : FewM {} := ⟨Nat.zero_le _, ⟨Nat.zero_le _, fun _ h => by cases h⟩, ⟨Nat.zero_le _, fun _ h => by cases h⟩, ⟨Nat.zero_le _, fun _ h => by cases h⟩⟩
end
def LawQ (V : Vw) (w0 : World) (v : Value) (w' : World) : Prop := v = .bool true ∧ ∃ V', St ⟨w0, V, V'⟩ w' []
end Go.Proofs.YtmigokakpahgkaaGreatDoor

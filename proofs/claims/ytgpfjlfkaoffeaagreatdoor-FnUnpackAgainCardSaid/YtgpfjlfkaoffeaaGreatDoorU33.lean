/- The reference reads a message as a whole. Where what is read of packed bytes ends: where it was packed to end. With one more counted at the bytes' end nothing is read. The bits of a head, set in any order (the reference ranges over a map). The reference's packing: rules for texts, whole numbers, stores beside an own slice, an own slice exchanged for another. The reference's packing: its ink in memory; numbers put. -/
import Derived.Test.YtgpfjlfkaoffeaaGreatDoorU23
import Derived.Test.YtgpfjlfkaoffeaaGreatDoorU32
import Derived.Test.YtgpfjlfkaoffeaaGreatDoorU07
import Derived.Test.YtgpfjlfkaoffeaaGreatDoorU14
import Derived.Test.YtgpfjlfkaoffeaaGreatDoorU06
import Derived.Test.YtgpfjlfkaoffeaaGreatDoorU19
import Derived.Maps.RangeRun
import Derived.Test.YtgpfjlfkaoffeaaGreatDoorU08
set_option linter.all false
namespace Go.Proofs.YtgpfjlfkaoffeaaGreatDoor
open Go
theorem unpackM_of {l : List UInt8} {s0 s1 s2 s3 s4 : PSeen} (h : parseM l [1, 3, 8, 13, 18] = [s0, s1, s2, s3, s4]) : unpackM l = if s0.fault = 0 ∧ s1.fault = 0 ∧ s2.fault = 0 ∧ s3.fault = 0 ∧ s4.fault = 0 then
   some { id := s0.id, bits := s0.bits, asks := s1.asks, answers := s2.recs, authorities := s3.recs, additionals := s4.recs } else none := by
 unfold unpackM; rw [h]
theorem unpackM_fault {l : List UInt8} {s0 s1 s2 s3 s4 s : PSeen} {j : Nat} (h : parseM l [1, 3, 8, 13, 18] = [s0, s1, s2, s3, s4]) (hj : [s0, s1, s2, s3, s4][j]? = some s) (hs : s.fault ≠ 0) : unpackM l = none := by
 rw [unpackM_of h]
 have hm := List.mem_of_getElem? hj
 refine if_neg ?_
 rintro ⟨h0, h1, h2, h3, h4⟩
 simp only [List.mem_cons, List.not_mem_nil, or_false] at hm
 rcases hm with rfl | rfl | rfl | rfl | rfl <;> exact hs ‹_›
theorem unpackM_clean {l : List UInt8} {s0 s1 s2 s3 s4 : PSeen} (h : parseM l [1, 3, 8, 13, 18] = [s0, s1, s2, s3, s4]) (hz : ∀ i s, i < 5 → [s0, s1, s2, s3, s4][i]? = some s → s.fault = 0) :
  unpackM l = some { id := s0.id, bits := s0.bits, asks := s1.asks, answers := s2.recs, authorities := s3.recs, additionals := s4.recs } := by
 rw [unpackM_of h]
 exact if_pos ⟨hz 0 _ (by decide) rfl, hz 1 _ (by decide) rfl, hz 2 _ (by decide) rfl, hz 3 _ (by decide) rfl, hz 4 _ (by decide) rfl⟩
section
variable {V : Vw} {w0 : World} {l : List UInt8} {mv : Value}
set_option maxHeartbeats 4000000 in
theorem c_sunpack (hV : V.In w0) (hb : RB V mv l) (h2l : l.length ≤ 4294967296) :
  eC Tryz.prog 12 #[mv] w0 fun v w' => ∃ (V' : Vw) (mcs : List Value) (ok : Bool) (x : PMsg), v = .tuple #[.agg mcs.toArray, .bool ok] ∧ St ⟨w0, V, V'⟩ w' [] ∧ RMsg V' x mcs ∧ ((ok = true ∧ unpackM l = some x) ∨ (ok = false ∧ unpackM l = none ∧ x = {})) := by
 have hs := St.start hV
 obtain ⟨s0, s1, s2, s3, s4, hp⟩ : ∃ s0 s1 s2 s3 s4, parseM l [1, 3, 8, 13, 18] = [s0, s1, s2, s3, s4] := ⟨_, _, _, _, _, parse5 l⟩
 refine aT [_] Tryz.func12 Tryz.ntmps12 Tryz.results12 rfl rfl (dP (aJ (aX hs z_36 rfl (fun b2 w hb2 he2 hs => ?_))))
 replace hs : St ⟨w0, V, V⟩ w [(b2, .cells msgZ.toArray 36 (0, 0))] := hs
 refine dN rfl rfl (aH (dP (dM rfl rfl (aJ (o_bslice (vls := [[.int .i64 1], [.int .i64 3], [.int .i64 8], [.int .i64 13], [.int .i64 18]]) el_62 hs rfl rfl rfl rfl (by simp) (by decide) (by decide) rfl (fun b8 w hb8 he8 hs => ?_))))))
 obtain ⟨V1, hle1, hv8, hs⟩ := St.give hs hb8
 have hst : SlV V1 1 (.slice (some ⟨b8, 0, none⟩) 5 5) 5 (([1, 3, 8, 13, 18] : List Int).map fun i => .int .i64 i) := SlV.cells (sp := []) hv8 rfl (by decide)
 refine aZ ok_28 rfl rfl (c_sparse hs.isIn (hb.mono hle1) h2l hst (by decide) (by intro st h; simp only [List.mem_cons, List.not_mem_nil, or_false] at h; exact h)) rfl (fun v9 w HF => ?_)
 obtain ⟨V2, hc, hR⟩ := HF
 replace hs := hs.frame hc
 rw [hp] at hR
 obtain ⟨xs, hS, hRw⟩ := hR
 obtain ⟨a1, c1, rfl, hk1, h1⟩ := hS.form
 obtain ⟨b1, p1, rfl, hcs⟩ := h1 (by simp)
 obtain ⟨e0, ⟨qa0, ra0, rfl, f0, g0⟩, hl0, ht0⟩ := hRw.at (i := 0) (a := s0) rfl
 obtain ⟨e1, ⟨qa1, ra1, rfl, f1, g1⟩, hl1, ht1⟩ := hRw.at (i := 1) (a := s1) rfl
 obtain ⟨e2, ⟨qa2, ra2, rfl, f2, g2⟩, hl2, ht2⟩ := hRw.at (i := 2) (a := s2) rfl
 obtain ⟨e3, ⟨qa3, ra3, rfl, f3, g3⟩, hl3, ht3⟩ := hRw.at (i := 3) (a := s3) rfl
 obtain ⟨e4, ⟨qa4, ra4, rfl, f4, g4⟩, hl4, ht4⟩ := hRw.at (i := 4) (a := s4) rfl
 refine dN rfl rfl (aH (aF (dP (dM rfl rfl (lp (bC Tryz.underlying60 rfl) rfl (dM rfl rfl (aH (bQ (dC (fun j : Nat => eH (eH (eH (eH (eH emp 12 (.int .i64 j)) 11 (.int .i64 (5 : Nat))) 10 (.slice (some ⟨b1, p1, none⟩) 5 c1)) 4 (.slice (some ⟨b1, p1, none⟩) 5 c1)) 2 (.pointer (some ⟨b2, 0, none⟩))) (fun j w' => St ⟨w0, V, V2⟩ w' [(b2, .cells msgZ.toArray 36 (0, 0))] ∧ j ≤ 5 ∧ ∀ i s, i < j → [s0, s1, s2, s3, s4][i]? = some s → s.fault = 0) (fun j => 5 - j) 0 (aL rfl (aL rfl (aL rfl (aL rfl (aL rfl (bG _)))))) ⟨hs, Nat.zero_le _, fun i s h => absurd h (by omega)⟩ ?_)))))))))
 clear hs
 rintro j w ⟨hs, hj, hz⟩
 refine dP (lp (cY rfl rfl) rfl (aH (aF (bH rfl (fun hc0 => ?_) (fun hc0 => ?_)))))
 have hjl : j < 5 := by omega
 obtain ⟨x, hx⟩ : ∃ x, [s0, s1, s2, s3, s4][j]? = some x := ⟨_, List.getElem?_eq_getElem hjl⟩
 obtain ⟨e, hrx, hl, ht⟩ := hRw.at hx
 have hfl := hrx.flat
 obtain ⟨qa, ra, rfl, f, g⟩ := hrx
 refine aW (aF (bQ (dP (lp (eZ j (p1 + j * 13) es_60 rfl rfl rfl hjl rfl) rfl (lp (aO rfl (ld_cells (l := _) k_81 hl (fun i u hu => by rw [Nat.add_assoc]; exact Vw.cell_in hs.isIn (hcs _ _ (fN ht hu))))) rfl (aJ (aX hs z_81 rfl (fun b6 w hb6 he6 hs => aJ (dR 0 hs k_81 rfl rfl rfl hfl.2 rfl hfl.1 rfl (fun w hs => aH (dP (lp (aR fo_81_0 rfl) rfl (lp (aO rfl (cT (a := []) (i := 0) cH (hs.g 0 rfl) rfl rfl rfl)) rfl (lp (po_neq rfl rfl) rfl (aH ?_)))))))))))))))
 refine bH rfl (fun hc1 => ?_) (fun hc1 => ?_)
 refine dP (lp (bM (vs := []) (ps := []) rfl bz_36) rfl (aJ (dR 1 hs k_36 rfl rfl rfl (by simp) (by rfl) (aG (by decide +kernel)) rfl (fun w hs => dN rfl rfl (aH (aV ⟨_, fX ⟨_, rfl, aP k_36 (hs.g 1 rfl) rfl⟩ rfl, ?_⟩))))))
 have hf0 : x.fault ≠ 0 := fun h => hc1 (by simp [h])
 exact ⟨V2, _, false, {}, rfl, (hs.drop hb6).drop hb2, RMsg.nil V2, .inr ⟨rfl, unpackM_fault hp hx hf0, rfl⟩⟩
 refine aW ?_
 have hnext : ∀ i s, i < j + 1 → [s0, s1, s2, s3, s4][i]? = some s → s.fault = 0 := fun i s hi hsi => by
  rcases Nat.lt_or_ge i j with h | h
  exact hz i s h hsi
  obtain rfl : i = j := by omega
  rw [hx] at hsi; cases hsi; simpa using hc1
 refine aB (lp (bN rfl rfl (fV (c := j + 1) (by omega) (by omega))) rfl (dM rfl rfl (aH ?_)))
 exact ⟨j + 1, aL rfl (aL rfl (aL rfl (aL rfl (aL rfl (bG _))))), ⟨hs.drop hb6, by omega, hnext⟩, by omega⟩
 refine eT (aF ?_)
 have hj5 : j = 5 := by omega
 subst hj5
 have hM := unpackM_clean hp hz
 have hRM : RMsg V2 { id := s0.id, bits := s0.bits, asks := s1.asks, answers := s2.recs, authorities := s3.recs, additionals := s4.recs } (headC s0.id s0.bits ++ [qa1, ra2, ra3, ra4]) := ⟨_, _, _, _, rfl, f1, g2, g3, g4⟩
 refine e_draw (fun w2 => V2.In w2) [3, 7, 11, 15, 19] mixed (fun w hw => ?_)
 replace hs := hw.st hs
 refine dI 0 rfl (fun w => aC rfl) rfl rfl (dI 1 rfl (fun w => (eZ 0 (p1 + 0 * 13) es_60 rfl rfl rfl (by decide) rfl)) rfl rfl (dI 2 rfl (fun w => bD fo_81_1 rfl) rfl rfl (dJ 3 rfl (hs.isIn) rfl (fun w hf => (aO rfl (ld_cells (l := headC s0.id s0.bits) bZ rfl (fun i u hu => by rw [Nat.add_assoc, Nat.add_assoc]; exact Vw.cell_in hf (hcs _ _ (fN ht0 (by rw [Nat.add_comm 1 i, List.getElem?_cons_succ]; exact getElem?_headL hu))))))) rfl (dI 4 rfl (fun w => aC rfl) rfl rfl (dI 5 rfl (fun w => (eZ 1 (p1 + 1 * 13) es_60 rfl rfl rfl (by decide) rfl)) rfl rfl (dI 6 rfl (fun w => bD fo_81_2 rfl) rfl rfl (dJ 7 rfl (hs.isIn) rfl (fun w hf => (aO rfl (bR (v := qa1) k_34 (by rw [Nat.add_assoc]; exact Vw.cell_in hf (hcs _ _ (fN ht1 (i := 11) rfl)))))) rfl (dI 8 rfl (fun w => aC rfl) rfl rfl (dI 9 rfl (fun w => (eZ 2 (p1 + 2 * 13) es_60 rfl rfl rfl (by decide) rfl)) rfl rfl (dI 10 rfl (fun w => bD fo_81_3 rfl) rfl rfl (dJ 11 rfl (hs.isIn) rfl (fun w hf => (aO rfl (bR (v := ra2) k_31 (by rw [Nat.add_assoc]; exact Vw.cell_in hf (hcs _ _ (fN ht2 (i := 12) rfl)))))) rfl (dI 12 rfl (fun w => aC rfl) rfl rfl (dI 13 rfl (fun w => (eZ 3 (p1 + 3 * 13) es_60 rfl rfl rfl (by decide) rfl)) rfl rfl ?_)))))))))))))
 refine dI 14 rfl (fun w => bD fo_81_3 rfl) rfl rfl (dJ 15 rfl (hs.isIn) rfl (fun w hf => (aO rfl (bR (v := ra3) k_31 (by rw [Nat.add_assoc]; exact Vw.cell_in hf (hcs _ _ (fN ht3 (i := 12) rfl)))))) rfl (dI 16 rfl (fun w => aC rfl) rfl rfl (dI 17 rfl (fun w => (eZ 4 (p1 + 4 * 13) es_60 rfl rfl rfl (by decide) rfl)) rfl rfl (dI 18 rfl (fun w => bD fo_81_3 rfl) rfl rfl (dJ 19 rfl (hs.isIn) rfl (fun w hf => (aO rfl (bR (v := ra4) k_31 (by rw [Nat.add_assoc]; exact Vw.cell_in hf (hcs _ _ (fN ht4 (i := 12) rfl)))))) rfl (dI 20 rfl (fun w => (fO [headC s0.id s0.bits, [qa1], [ra2], [ra3], [ra4]] st_36 rfl rfl (by simp only [List.map_cons, List.map_nil, cells_one f1.oneCell, cells_one g2.oneCell, cells_one g3.oneCell, cells_one g4.oneCell]; rfl) rfl rfl)) rfl rfl (dL 21 rfl (dR 0 hs k_36 rfl rfl rfl hRM.flat.2 rfl hRM.flat.1 rfl (fun w hs => ⟨fun h => absurd h (by decide +kernel), dI 22 rfl (fun w => aD rfl) rfl rfl (bS (by decide +kernel) (aV ⟨_, fX ⟨_, rfl, aP k_36 (hs.g 0 rfl) hRM.flat.2⟩ rfl, ?_⟩))⟩)))))))))
 exact ⟨V2, _, true, _, rfl, hs.drop hb2, hRM, .inl ⟨rfl, hM⟩⟩
end
end Go.Proofs.YtgpfjlfkaoffeaaGreatDoor
namespace Go.Proofs.YtgpfjlfkaoffeaaGreatDoor
open Go
def Pl (t : List (List UInt8 × Nat)) : Prop := ∀ e ∈ t, e.2 < 16384
def On (b : List UInt8) (i : Nat) (o : List UInt8) : Prop := o.length ≤ b.length ∧ ∀ j, i ≤ j → j < o.length → eB b j = eB o j
theorem On.pre {b o x : List UInt8} {i : Nat} (h : On b i (o ++ x)) : On b i o :=
  ⟨by have := h.1; rw [List.length_append] at this; omega, fun j h1 h2 => by rw [h.2 j h1 (by rw [List.length_append]; omega), byteAt_app _ h2]⟩
theorem On.from {b o : List UInt8} {i k : Nat} (h : On b i o) (hk : i ≤ k) : On b k o := ⟨h.1, fun j h1 h2 => h.2 j (by omega) h2⟩
theorem Pl.at {t : List (List UInt8 × Nat)} (h : Pl t) {s : List UInt8} {p : Nat} (hp : tblAt t s = some p) : p < 16384 := by
  unfold tblAt at hp
  obtain ⟨e, h1, rfl⟩ := Option.map_eq_some_iff.1 hp
  exact h e (List.mem_of_find?_eq_some h1)
theorem Pl.put {t : List (List UInt8 × Nat)} (h : Pl t) {short : Bool} {s : List UInt8} {n : Nat} : Pl (if short ∧ n < 16384 then t ++ [(s, n)] else t) := by
  split
  · rename_i hc
    intro e he
    rcases List.mem_append.1 he with he | he
    · exact h e he
    · simp at he; subst he; exact hc.2
  · exact h
end Go.Proofs.YtgpfjlfkaoffeaaGreatDoor
namespace Go.Proofs.YtgpfjlfkaoffeaaGreatDoor
open Go
def setB (l : List (Nat × Bool)) (n : Nat) : Nat := l.foldl (fun n e => if e.2 then n ||| 2 ^ e.1 else n) n
theorem setB_perm {l k : List (Nat × Bool)} (h : List.Perm l k) (n : Nat) : setB l n = setB k n := by
  unfold setB
  refine h.foldl_eq' (fun x _ y _ z => ?_) n
  cases x.2 <;> cases y.2 <;> simp
  rw [Nat.or_assoc, Nat.or_assoc, Nat.or_comm (2 ^ x.1)]
def headBits (h : PHead) : List (Nat × Bool) := [(15, h.response), (10, h.authority), (9, h.cut), (8, h.desired), (7, h.available), (5, h.authentic), (4, h.unchecked)]
theorem headBits_perm (h : PHead) : List.Perm (headBits h) [(7, h.available), (8, h.desired), (9, h.cut), (10, h.authority), (15, h.response), (5, h.authentic), (4, h.unchecked)] :=
  (List.reverse_perm [(15, h.response), (10, h.authority), (9, h.cut), (8, h.desired), (7, h.available)]).symm.append_right [(5, h.authentic), (4, h.unchecked)]
theorem setB_bits (h : PHead) {l : List (Nat × Bool)} (hl : List.Perm l (headBits h)) : setB l (h.op * 2048 ||| h.code) = h.bits := by
  rw [setB_perm (hl.trans (headBits_perm h))]
  unfold PHead.bits orIf setB
  simp only [List.foldl_cons, List.foldl_nil]
end Go.Proofs.YtgpfjlfkaoffeaaGreatDoor
namespace Go.Proofs.YtgpfjlfkaoffeaaGreatDoor
open Go
section
variable {P : Program} {n : Nat} {ρ : Env} {w0 : Base} {w : World} {L : List (Nat × Obj)} {K : Env → World → Prop} {d : Tmp} {ty : TypeId} {pos : String} {af : Array Edge} {g : Option (Nat × Bool)}
variable {E : TypeId} {size m : Nat} {sv : Value} {xs : List Value}
theorem po_lenS {T : TypeId} {x : Operand} {s : List UInt8} (hT : P.underlying T = some .string) (hx : ev ρ x = some (fR s)) :
    PO P (.call { callee := .builtin .len, args := #[x], argTypes := #[T] }) ρ w (.int .i64 (s.length : Nat)) := by
  have q := po_len_str (P := P) (w := w) hT hx
  rwa [ofBytes_size] at q
theorem po_eqlS {T T' : TypeId} {x y : Operand} {a b : List UInt8} (hx : ev ρ x = some (fR a)) (hy : ev ρ y = some (fR b)) : PO P (.binOp .eql T x y T') ρ w (.bool (decide (a = b))) := by
  have q := po_eql_str (P := P) (w := w) (T := T) (T' := T') hx hy
  have e : decide (fB a = fB b) = decide (a = b) := by
    by_cases h : a = b
    · subst h; simp
    · rw [decide_eq_false h, decide_eq_false fun e => h (strV_inj e)]
  rwa [e] at q
theorem po_neqS {T T' : TypeId} {x y : Operand} {a b : List UInt8} (hx : ev ρ x = some (fR a)) (hy : ev ρ y = some (fR b)) : PO P (.binOp .neq T x y T') ρ w (.bool (decide (a ≠ b))) := by
  have q := po_neq_str (P := P) (w := w) (T := T) (T' := T') hx hy
  have e : decide (fB a ≠ fB b) = decide (a ≠ b) := by
    by_cases h : a = b
    · subst h; simp
    · rw [decide_eq_true (show a ≠ b from h), decide_eq_true (show fB a ≠ fB b from fun e => h (strV_inj e))]
  rwa [e] at q
theorem po_eqlSF {T T' : TypeId} {x y : Operand} {a b : List UInt8} (hx : ev ρ x = some (fR a)) (hy : ev ρ y = some (fR b)) (h : a ≠ b) : PO P (.binOp .eql T x y T') ρ w (.bool false) := by
  have q := po_eqlS (P := P) (w := w) (T := T) (T' := T') hx hy
  rwa [decide_eq_false h] at q
theorem po_eqlST {T T' : TypeId} {x y : Operand} {a b : List UInt8} (hx : ev ρ x = some (fR a)) (hy : ev ρ y = some (fR b)) (h : a = b) : PO P (.binOp .eql T x y T') ρ w (.bool true) := by
  have q := po_eqlS (P := P) (w := w) (T := T) (T' := T') hx hy
  rwa [decide_eq_true h] at q
theorem po_indexS {T : TypeId} {x y : Operand} {s : List UInt8} {i : Int} {k : IntKind} (j : Nat) (hT : P.underlying T = some .string) (hx : ev ρ x = some (fR s)) (hy : ev ρ y = some (.int k i)) (hi : i = j) (hj : j < s.length) :
    PO P (.index T x y) ρ w (.int .u8 (eB s j)) := by
  subst hi
  have q := po_index_str (P := P) (w := w) (T := T) (b := s[j]) hT hx hy (by omega) (by
    rw [Int.toNat_natCast]
    show (fB s).data[j]? = _
    simp [fB, hj])
  have e : (eB s j : Nat) = (s[j]).toNat := by simp [eB, List.getD_eq_getElem?_getD, List.getElem?_eq_getElem hj]
  rw [e]; exact q
theorem po_headS {T : TypeId} {x xh : Operand} {s : List UInt8} {k : IntKind} {hi : Int} (i : Nat) (hT : P.underlying T = some .string) (hx : ev ρ x = some (fR s)) (hh : ev ρ xh = some (.int k hi)) (e1 : hi = i) (h : i ≤ s.length) :
    PO P (.slice T x none (some xh) none) ρ w (fR (s.take i)) := by
  subst e1
  have hsz : (fB s).size = s.length := ofBytes_size s
  have q := po_slice_str (w := w) hT hx (.no _) (.yes _ hh (by omega)) (Nat.zero_le _) (by simp [hsz]; omega)
  have e : (fB s).extract 0 (Int.toNat (i : Int)) = fB (s.take i) := by
    apply ByteArray.ext
    rw [ByteArray.data_extract, Int.toNat_natCast]
    apply Array.toList_inj.1
    simp [fB]
  rw [e] at q
  exact q
theorem po_min {x y : Operand} {k k' : IntKind} {a b : Int} {c : Int} {ts : Array TypeId} (hx : ev ρ x = some (.int k a)) (hy : ev ρ y = some (.int k' b)) (hc : (if b < a then b else a) = c) :
    PO P (.call { callee := .builtin .min, args := #[x, y], argTypes := ts }) ρ w (.int k c) := by
  subst hc
  intro o e ho he
  simp [execOp, ho, resolve, he _ _ hx, he _ _ hy, invoke, builtin, Builtin.min_, Builtin.min2]
theorem src_strV {s : List UInt8} : Src P w 1 (fR s) s.length (s.map eA) := by
  have q := src_string (P := P) (w := w) (s := fB s)
  rw [ofBytes_size] at q
  exact q
theorem o_storeS {T E1 : TypeId} {x y : Operand} {kk b p : Nat} {l l' : List Value} {v : Value} (h : Sl E size w0 w ((b, .cells l.toArray E1 (0, 0)) :: L) sv m xs) (hT : eK P T = some (false, kk)) (h1 : kk = 1)
    (hx : ev ρ x = some (.pointer (some ⟨b, p, none⟩))) (hy : ev ρ y = some v) (hv : v.oneCell' = true) (hl : lset l p v = some l') (hK : ∀ w', Sl E size w0 w' ((b, .cells l'.toArray E1 (0, 0)) :: L) sv m xs → K ρ w') :
    OW P n ⟨none, .store T x y, ty, pos, af, g⟩ K ρ w := by
  obtain ⟨X, hX, hs⟩ := h.open
  exact aS (k := 0) (L' := (b, .cells l'.toArray E1 (0, 0)) :: (L ++ X)) hs hT h1 hx hy hv rfl hl rfl fun w' hs' => hK w' (hX.close hs')
end
section
variable {E E2 : TypeId} {size size2 m m2 : Nat} {v v2 : Value} {xs xs2 : List Value} {B : Base} {w : World} {L X2 X3 : List (Nat × Obj)} {a : Nat × Obj}
theorem SlX.form {n0 : Nat} {X : List (Nat × Obj)} (h : SlX E size n0 X v m xs) : ∃ a c, v = .slice a m c := by
  rcases h.2 with ⟨hv, hn, _⟩ | ⟨g, cap, sp, hv, _⟩
  · subst hn; exact ⟨none, 0, hv⟩
  · exact ⟨_, _, hv⟩
theorem SlX.rows {n0 : Nat} {X : List (Nat × Obj)} (h : SlX E size n0 X v m xs) (h0 : 0 < m) : ∃ g cap, v = .slice (some ⟨g, 0, none⟩) m cap ∧ ∀ (B : Base) (M : List (Nat × Obj)), (∀ x ∈ X, x ∈ M) → fG B M g 0 xs := by
  rcases h.2 with ⟨_, hn, _⟩ | ⟨g, cap, sp, hv, hl, _, _, _, rfl⟩
  · omega
  · refine ⟨g, cap, hv, fun B M hM => fG.own (l := xs ++ sp) (E := E) (fz := (0, 0)) (hM _ (List.mem_singleton.2 rfl)) fun j u hu => ?_⟩
    rw [Nat.zero_add, List.getElem?_append_left (List.getElem?_eq_some_iff.1 hu).1]; exact hu
theorem Sl.rot (h : Sl E size B w (a :: (L ++ (X2 ++ X3))) v m xs) (h2 : SlX E2 size2 B.heap.size X2 v2 m2 xs2) : ∃ X1, SlX E size B.heap.size X1 v m xs ∧ Sl E2 size2 B w (a :: (L ++ (X3 ++ X1))) v2 m2 xs2 := by
  obtain ⟨X1, hX, hs⟩ := h.open
  refine ⟨X1, hX, h2.close (hs.perm ?_)⟩
  simp only [List.cons_append, List.append_assoc]
  refine (List.Perm.append_left L ?_).cons a
  have := List.perm_append_comm (l₁ := X2) (l₂ := X3 ++ X1)
  simpa only [List.append_assoc] using this
end
end Go.Proofs.YtgpfjlfkaoffeaaGreatDoor
namespace Go.Proofs.YtgpfjlfkaoffeaaGreatDoor
open Go
theorem gB {n : Nat} : IntKind.u16.wrap ((n : Nat) : Int) = ((n % 65536 : Nat) : Int) := by
 have h1 : IntKind.u16.wrap (n : Int) = (n : Int) % 65536 := by simp [IntKind.wrap, IntKind.signed, IntKind.bits]
 rw [h1]; omega
structure InkOk (x : Ink) : Prop where
 pl : Pl x.tbl
 few : x.tbl.length ≤ x.out.length
theorem InkOk.put {x : Ink} (h : InkOk x) (b : List UInt8) : InkOk (x.put b) := ⟨h.pl, by have := h.few; simp only [Ink.put, List.length_append]; omega⟩
def nmR (t : List (List UInt8 × Nat)) : List Value := t.map fun e => fR e.1
def atR (t : List (List UInt8 × Nat)) : List Value := t.map fun e => .int .i64 e.2
def InkX (n0 : Nat) (X : List (Nat × Obj)) (vn va : Value) (t : List (List UInt8 × Nat)) : Prop :=
 ∃ Xn Xa, X = Xn ++ Xa ∧ SlX 9 1 n0 Xn vn t.length (nmR t) ∧ SlX 3 1 n0 Xa va t.length (atR t)
theorem i64sh8 {n : Nat} : (n : Int).fdiv (2 ^ (min (8 : Int).toNat IntKind.i64.bits)) = ((n / 256 : Nat) : Int) := by
 have e : IntKind.i64.bits = 64 := rfl
 rw [e, Int.fdiv_eq_ediv_of_nonneg _ (by exact_mod_cast Nat.zero_le _)]
 norm_cast
def InkY (n0 : Nat) (Y : List (Nat × Obj)) (wb : Nat) (x : Ink) : Prop :=
 ∃ vb vn va X Xb, Y = (wb, .cells [vb, vn, va].toArray 74 (0, 0)) :: (X ++ Xb) ∧ InkX n0 X vn va x.tbl ∧ SlX 5 1 n0 Xb vb x.out.length (x.out.map eA)
def fZ (B : Base) (w : World) (L : List (Nat × Obj)) (wb : Nat) (x : Ink) : Prop := InkOk x ∧ ∃ Y, InkY B.heap.size Y wb x ∧ St B w (L ++ Y)
theorem perm_ink {a : Nat × Obj} {L X Xb : List (Nat × Obj)} : List.Perm (L ++ (a :: (X ++ Xb))) ((a :: (L ++ X)) ++ Xb) := by
 have h := List.perm_middle (a := a) (l₁ := L) (l₂ := X ++ Xb)
 simpa only [List.cons_append, List.append_assoc] using h
section
variable {B : Base} {w : World} {L X : List (Nat × Obj)} {wb n n0 : Nat} {vb vn va : Value} {x : Ink} {out : List UInt8} {t : List (List UInt8 × Nat)}
theorem InkX.close (hX : InkX B.heap.size X vn va t) (hok : InkOk ⟨out, t⟩) (h : Sl 5 1 B w ((wb, .cells [vb, vn, va].toArray 74 (0, 0)) :: (L ++ X)) vb n (out.map eA)) : fZ B w L wb ⟨out, t⟩ := by
 have hn : n = out.length := by have := h.1; simp at this; omega
 subst hn
 obtain ⟨Xb, hXb, hs⟩ := h.open
 exact ⟨hok, _, ⟨vb, vn, va, X, Xb, rfl, hX, hXb⟩, hs.perm perm_ink.symm⟩
theorem fZ.sl (h : fZ B w L wb x) : InkOk x ∧ ∃ vb vn va X, InkX B.heap.size X vn va x.tbl ∧ Sl 5 1 B w ((wb, .cells [vb, vn, va].toArray 74 (0, 0)) :: (L ++ X)) vb x.out.length (x.out.map eA) := by
 obtain ⟨hok, _, ⟨vb, vn, va, X, Xb, rfl, hX, hXb⟩, hs⟩ := h
 exact ⟨hok, vb, vn, va, X, hX, hXb.close (hs.perm perm_ink)⟩
theorem fZ.get (h : fZ B w L wb x) {k b : Nat} {o : Obj} (hk : L[k]? = some (b, o)) : w.heap[b]? = some o := by
 obtain ⟨_, Y, _, hs⟩ := h
 exact hs.own _ (List.mem_append_left _ (List.mem_of_getElem? hk))
theorem fZ.isIn (h : fZ B w L wb x) : B.V.In w := by
 obtain ⟨_, Y, _, hs⟩ := h
 exact hs.isIn
theorem fZ.drop {b : Nat} {o : Obj} (h : fZ B w ((b, o) :: L) wb x) (hb : B.heap.size ≤ b) : fZ B w L wb x := by
 obtain ⟨hok, Y, hY, hs⟩ := h
 exact ⟨hok, Y, hY, hs.drop hb⟩
theorem fZ.st (h : fZ B w L wb x) : ∃ Y, InkY B.heap.size Y wb x ∧ St B w (L ++ Y) := h.2
theorem InkY.close {Y : List (Nat × Obj)} (h : InkY B.heap.size Y wb x) (hok : InkOk x) (hs : St B w (L ++ Y)) : fZ B w L wb x := ⟨hok, Y, h, hs⟩
theorem fZ.frame {w0 w1 : World} {V0 V V' : Vw} (h : fZ ⟨w0, V0, V⟩ w L wb x) (hc : St ⟨w, V, V'⟩ w1 []) : fZ ⟨w0, V0, V'⟩ w1 L wb x := by
 obtain ⟨hok, Y, hY, hs⟩ := h
 exact ⟨hok, Y, hY, hs.frame hc⟩
theorem InkX.names (hX : InkX n0 X vn va t) : ∃ a c, vn = .slice a t.length c := by
 obtain ⟨Xn, Xa, _, h1, _⟩ := hX
 exact h1.form
theorem InkX.rows (hX : InkX n0 X vn va t) (h0 : 0 < t.length) : ∃ g c g2 c2, vn = .slice (some ⟨g, 0, none⟩) t.length c ∧ va = .slice (some ⟨g2, 0, none⟩) t.length c2 ∧ ∀ (B : Base) (M : List (Nat × Obj)), (∀ x ∈ X, x ∈ M) → fG B M g 0 (nmR t) ∧ fG B M g2 0 (atR t) := by
 obtain ⟨Xn, Xa, rfl, h1, h2⟩ := hX
 obtain ⟨g, c, e1, r1⟩ := h1.rows h0
 obtain ⟨g2, c2, e2, r2⟩ := h2.rows h0
 exact ⟨g, c, g2, c2, e1, e2, fun B M hM => ⟨r1 B M fun x hx => hM x (List.mem_append_left _ hx), r2 B M fun x hx => hM x (List.mem_append_right _ hx)⟩⟩
theorem fZ.nil (hs : St B w (L ++ [(wb, .cells [Value.slice none 0 0, .slice none 0 0, .slice none 0 0].toArray 74 (0, 0))])) : fZ B w L wb {} :=
 ⟨⟨(fun _ h => by cases h), Nat.le_refl _⟩, _, ⟨_, _, _, [], [], rfl, ⟨[], [], rfl, ⟨rfl, .inl ⟨rfl, rfl, rfl⟩⟩, ⟨rfl, .inl ⟨rfl, rfl, rfl⟩⟩⟩, ⟨rfl, .inl ⟨rfl, rfl, rfl⟩⟩⟩, hs⟩
end
section
variable {V V0 : Vw} {w w00 : World} {L : List (Nat × Obj)} {wb : Nat} {x : Ink}
set_option maxHeartbeats 1000000 in
theorem n_put2 (hI : fZ ⟨w00, V0, V⟩ w L wb x) (hx : x.out.length ≤ 1099511627776) (n : Nat) :
  eC Tryz.prog 24 #[.pointer (some ⟨wb, 0, none⟩), .int .u16 n] w fun _ w' => fZ ⟨w00, V0, V⟩ w' L wb (x.put (be2 n)) := by
 obtain ⟨hok, vb, vn, va, X, hX, hsl⟩ := hI.sl
 refine aT [_, _] Tryz.func24 Tryz.ntmps24 Tryz.results24 rfl rfl (aB (dM rfl rfl (dM rfl rfl (lp (aN rfl) rfl (lp (aR fo_74_0 rfl) rfl (lp (aO rfl (aQ k_23 (hsl.st.get (k := 0) rfl) rfl)) rfl (dM rfl rfl (lp (po_shr (c := (n / 256 : Nat)) rfl rfl (by decide) (u16sh (k := 8) (n := n))) rfl (lp (bY Tryz.underlying22 Tryz.underlying5 rfl u8lo) rfl (dM rfl rfl (lp (bY Tryz.underlying22 Tryz.underlying5 rfl u8lo) rfl (l_appB (be2 n) el_23 hsl (fun _ => rfl) rfl rfl rfl (by decide) (by decide) (by omega) (by omega) rfl rfl (fun b14 v15 w hs => ?_)))))))))))))
 skip
 refine lp (aN rfl) rfl (lp (aR fo_74_0 rfl) rfl (aJ (o_storeS hs k_23 rfl rfl rfl hs.oneCell rfl (fun w hs => aH ⟨_, res0, ?_⟩))))
 exact hX.close (hok.put _) hs
set_option maxHeartbeats 1000000 in
theorem n_put4 (hI : fZ ⟨w00, V0, V⟩ w L wb x) (hx : x.out.length ≤ 1099511627776) (n : Nat) :
  eC Tryz.prog 51 #[.pointer (some ⟨wb, 0, none⟩), .int .u32 n] w fun _ w' => fZ ⟨w00, V0, V⟩ w' L wb (x.put (be4 n)) := by
 obtain ⟨hok, vb, vn, va, X, hX, hsl⟩ := hI.sl
 refine aT [_, _] Tryz.func51 Tryz.ntmps51 Tryz.results51 rfl rfl (aB (dM rfl rfl (dM rfl rfl (lp (aN rfl) rfl (lp (aR fo_74_0 rfl) rfl (lp (aO rfl (aQ k_23 (hsl.st.get (k := 0) rfl) rfl)) rfl (dM rfl rfl (lp (po_shr (c := (n / 16777216 : Nat)) rfl rfl (by decide) (u32sh (k := 24) (n := n))) rfl (lp (bY Tryz.underlying27 Tryz.underlying5 rfl u8lo) rfl (dM rfl rfl (lp (po_shr (c := (n / 65536 : Nat)) rfl rfl (by decide) (u32sh (k := 16) (n := n))) rfl (lp (bY Tryz.underlying27 Tryz.underlying5 rfl u8lo) rfl (dM rfl rfl ?_)))))))))))))
 refine lp (po_shr (c := (n / 256 : Nat)) rfl rfl (by decide) (u32sh (k := 8) (n := n))) rfl (lp (bY Tryz.underlying27 Tryz.underlying5 rfl u8lo) rfl (dM rfl rfl (lp (bY Tryz.underlying27 Tryz.underlying5 rfl u8lo) rfl (l_appB (be4 n) el_23 hsl (fun _ => rfl) rfl rfl rfl (by decide) (by decide) (by omega) (by omega) rfl rfl (fun b14 v15 w hs => ?_)))))
 skip
 refine lp (aN rfl) rfl (lp (aR fo_74_0 rfl) rfl (aJ (o_storeS hs k_23 rfl rfl rfl hs.oneCell rfl (fun w hs => aH ⟨_, res0, ?_⟩))))
 exact hX.close (hok.put _) hs
end
section
variable {V : Vw} {w0 : World}
theorem n_fit (hV : V.In w0) (s : List UInt8) : eC Tryz.prog 26 #[fR s] w0 fun v w' => v = fR (eN s) ∧ St ⟨w0, V, V⟩ w' [] := by
 have hs := St.start hV
 refine aT [_] Tryz.func26 Tryz.ntmps26 Tryz.results26 rfl rfl (dP (dN rfl rfl (aH (dP (dM rfl rfl (dM rfl rfl (lp (po_lenS Tryz.underlying9 rfl) rfl (lp (po_min (c := ((min s.length 255 : Nat) : Int)) rfl rfl (by split <;> omega)) rfl (lp (po_headS (min s.length 255) Tryz.underlying9 rfl rfl rfl (Nat.min_le_left _ _)) rfl (dN rfl rfl (aH (aV ⟨_, fW rfl, ?_⟩))))))))))))
 refine ⟨?_, hs⟩
 unfold eN
 rcases Nat.le_total s.length 255 with h | h
 rw [Nat.min_eq_left h, List.take_length, List.take_of_length_le h]
 rw [Nat.min_eq_right h]
end
end Go.Proofs.YtgpfjlfkaoffeaaGreatDoor

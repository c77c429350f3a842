/- The proof layer of this claim, fourteenth part: maps of texts to numbers that a call owns. The proof layer of this claim, fifteenth part: methods through interface values; a buffer written in its midst. -/
import Derived.Test.YtgpfjlfkaoffeaaGreatDoorR06
import Derived.FollowTie
set_option linter.all false
namespace Go.Proofs.YtgpfjlfkaoffeaaGreatDoor
open Go
def ents : List (List UInt8 × Nat) → Nat → List MapEntry
  | [], _ => []
  | e :: t, i => ⟨fR e.1, .int .u16 e.2, i⟩ :: ents t (i + 1)
def eM (t : List (List UInt8 × Nat)) : Obj := .map (ents t 0).toArray t.length
theorem ents_app (t : List (List UInt8 × Nat)) (s : List UInt8) (p : Nat) : ∀ i, ents (t ++ [(s, p)]) i = ents t i ++ [⟨fR s, .int .u16 p, i + t.length⟩] := by
  induction t with
  | nil => intro i; rfl
  | cons e t ih => intro i; simp only [List.cons_append, ents, ih, List.length_cons]; congr 4; omega
theorem tblObj_app (t : List (List UInt8 × Nat)) (s : List UInt8) (p : Nat) : eM (t ++ [(s, p)]) = .map ((ents t 0).toArray.push ⟨fR s, .int .u16 p, t.length⟩) (t.length + 1) := by
  unfold eM
  rw [ents_app]
  simp
theorem strV_inj {a b : List UInt8} (h : fB a = fB b) : a = b := by
  have := congrArg (fun x : ByteArray => x.data.toList) h
  simpa [fB] using this
theorem find_ents (s : List UInt8) : ∀ (t : List (List UInt8 × Nat)) (b i : Nat),
    (tblAt t s = none ∧ Instr.findNow .string (fR s) (ents t b) i = some none) ∨ ∃ p j, tblAt t s = some p ∧ Instr.findNow .string (fR s) (ents t b) i = some (some (j, .int .u16 p))
  | [], b, i => .inl ⟨rfl, rfl⟩
  | (a, q) :: t, b, i => by
    by_cases h : a = s
    · subst h
      have he : (fB a == fB a) = true := (MapKept.bytes_beq _ _).2 rfl
      exact .inr ⟨q, i, by simp [tblAt], by simp [ents, Instr.findNow, fR, Instr.sameNow, he]⟩
    · have hne : (fB s == fB a) = false := by
        cases he : (fB s == fB a) with
        | false => rfl
        | true => exact absurd (strV_inj ((MapKept.bytes_beq _ _).1 he)).symm h
      have e1 : tblAt ((a, q) :: t) s = tblAt t s := by
        unfold tblAt
        rw [List.find?_cons_of_neg]
        simpa using h
      rw [e1]
      rcases find_ents s t (b + 1) (i + 1) with ⟨h1, h2⟩ | ⟨p, j, h1, h2⟩
      · exact .inl ⟨h1, by simp [ents, Instr.findNow, fR, Instr.sameNow, hne] ; simpa [fR] using h2⟩
      · exact .inr ⟨p, j, h1, by simp [ents, Instr.findNow, fR, Instr.sameNow, hne]; simpa [fR] using h2⟩
section
variable {P : Program} {n : Nat} {ρ : Env} {w0 : Base} {w : World} {L : List (Nat × Obj)} {K : Env → World → Prop} {d : Tmp} {ty : TypeId} {pos : String} {af : Array Edge} {g : Option (Nat × Bool)}
theorem po_lookup {mt kt et : TypeId} {x y : Operand} {b : Nat} {t : List (List UInt8 × Nat)} {s : List UInt8} (hm : P.underlying mt = some (.map kt et)) (hk : P.underlying kt = some .string) (hz : ∀ w, (zeroValue et).run P w = .ok (.int .u16 0) w)
    (hx : ev ρ x = some (.map (some b))) (hy : ev ρ y = some (fR s)) (hb : w.heap[b]? = some (eM t)) :
    PO P (.lookup mt x y true) ρ w (.tuple #[.int .u16 ((tblAt t s).getD 0 : Nat), .bool (tblAt t s).isSome]) := by
  intro o e ho he
  have hbm : (getObj b).run P w = .ok (.map (ents t 0).toArray t.length) w := MapKept.run_getObj_map hb
  have hzr := hz w
  have hck : ∀ e n, (Instr.checkKey e (n + 1) kt (fR s)).run P w = .ok () w := fun e n => MapKept.run_checkKey hk (by simp [fR, MapKept.IsKey]) e n
  rcases find_ents s t 0 0 with ⟨h1, h2⟩ | ⟨p, j, h1, h2⟩
  · simp [execOp, ho, he _ _ hx, he _ _ hy, Instr.lookup, run_underlying hm, hbm, hck, MapKept.run_findKey hk h2, hzr, h1]
  · simp [execOp, ho, he _ _ hx, he _ _ hy, Instr.lookup, run_underlying hm, hbm, hck, MapKept.run_findKey hk h2, h1]
theorem po_lookupM {mt kt et : TypeId} {x y : Operand} {b : Nat} {t : List (List UInt8 × Nat)} {s : List UInt8} (hm : P.underlying mt = some (.map kt et)) (hk : P.underlying kt = some .string) (hz : ∀ w, (zeroValue et).run P w = .ok (.int .u16 0) w)
    (hx : ev ρ x = some (.map (some b))) (hy : ev ρ y = some (fR s)) (hb : w.heap[b]? = some (eM t)) (h : tblAt t s = none) : PO P (.lookup mt x y true) ρ w (.tuple #[.int .u16 0, .bool false]) := by
  have q := po_lookup hm hk hz hx hy hb
  rw [h] at q; exact q
theorem po_lookupH {mt kt et : TypeId} {x y : Operand} {b p : Nat} {t : List (List UInt8 × Nat)} {s : List UInt8} (hm : P.underlying mt = some (.map kt et)) (hk : P.underlying kt = some .string) (hz : ∀ w, (zeroValue et).run P w = .ok (.int .u16 0) w)
    (hx : ev ρ x = some (.map (some b))) (hy : ev ρ y = some (fR s)) (hb : w.heap[b]? = some (eM t)) (h : tblAt t s = some p) : PO P (.lookup mt x y true) ρ w (.tuple #[.int .u16 p, .bool true]) := by
  have q := po_lookup hm hk hz hx hy hb
  rw [h] at q; exact q
theorem o_mapUpdate {mt kt et : TypeId} {x y z : Operand} {b k p : Nat} {t : List (List UInt8 × Nat)} {s : List UInt8} {L' : List (Nat × Obj)} (hm : P.underlying mt = some (.map kt et)) (hkt : P.underlying kt = some .string) (hs : St w0 w L)
    (hx : ev ρ x = some (.map (some b))) (hy : ev ρ y = some (fR s)) (hz : ev ρ z = some (.int .u16 p)) (hk : lget L k = some (b, eM t)) (hn : tblAt t s = none) (hL : lset L k (b, eM (t ++ [(s, p)])) = some L')
    (hK : ∀ w', St w0 w' L' → K ρ w') : OW P n ⟨none, .mapUpdate mt x y z, ty, pos, af, g⟩ K ρ w := by
  have hb := hs.get hk
  have hbm : (getObj b).run P w = .ok (.map (ents t 0).toArray t.length) w := MapKept.run_getObj_map hb
  have hck : ∀ e n, (Instr.checkKey e (n + 1) kt (fR s)).run P w = .ok () w := fun e n => MapKept.run_checkKey hkt (by simp [fR, MapKept.IsKey]) e n
  refine o_skip (F := fun w' => w' = { w with heap := w.heap.setIfInBounds b (eM (t ++ [(s, p)])) }) ?_ ?_
  · intro o e ho he
    refine ⟨_, ?_, rfl⟩
    rcases find_ents s t 0 0 with ⟨h1, h2⟩ | ⟨q, j, h1, h2⟩
    · simp [execOp, ho, he _ _ hx, he _ _ hy, he _ _ hz, Instr.mapUpdate, run_underlying hm, hbm, hck, MapKept.run_findKey hkt h2, MapKept.run_setObj_map _ hb, tblObj_app]
    · rw [hn] at h1; cases h1
  · rintro w' rfl
    have hh := MapKept.heap_set (o' := eM (t ++ [(s, p)])) hb
    exact hK _ (hs.put hk hL (unf_map _ _) rfl rfl rfl (by simp) hh.1 hh.2)
end
section
variable {P : Program} {n : Nat} {ρ : Env} {w0 : Base} {w : World} {L : List (Nat × Obj)} {K : Env → World → Prop} {d d2 : Tmp} {ty ty2 : TypeId} {pos pos2 : String} {af af2 : Array Edge} {ops : Array Oper} {rest : List Oper}
variable {m : Nat} {v : Value} {out : List UInt8}
theorem bytes_cells (l : List UInt8) : (l.map eA).map (·.cells) = ((l.map eA).map fun x => [x]).map (·.toArray) := by
  induction l with
  | nil => rfl
  | cons a l ih => simp only [List.map_cons, ih]; rfl
theorem bytes_flat (l : List Value) : (l.map fun x => [x]).flatten = l := by
  induction l with
  | nil => rfl
  | cons a l ih => simp only [List.map_cons, List.flatten_cons, ih]; rfl
theorem l_appB {t e : TypeId} {bytes len : Nat} {zs : List Value} {ps : List (Nat × Operand)} {s : Operand} (news : List UInt8) (ht : eltOk P t = some (e, 1, bytes, zs)) (h : Sl e 1 w0 w L v m (out.map eA)) (hsv : ∀ u, ev (eH ρ d u) s = some v)
    (hx : evL ρ (ps.map (·.2)) = some (news.map eA)) (hps : ps.map (·.1) = List.range len) (hn : news.length = len) (h0 : 0 < len) (hsm : len ≤ 16777216) (hlen : m + len ≤ 4611686018427387904) (hbytes : (m + len) * bytes ≤ 140737488355328)
    (hd : Nat.blt d n = true) (hd2 : Nat.blt d2 n = true) (hk : ∀ b v' w', Sl e 1 w0 w' L v' (m + len) ((out ++ news).map eA) → LW P n ops rest K (eH (eH ρ d (.slice (some ⟨b, 0, none⟩) len len)) d2 v') w') :
    LW P n ops (⟨some d, .buildSlice t len ps.toArray, ty, pos, af, none⟩ :: ⟨some d2, .call { callee := .builtin .append, args := #[s, .tmp d], argTypes := #[t, t] }, ty2, pos2, af2, none⟩ :: rest) K ρ w := by
  have hE := eltOk_spec ht
  obtain ⟨X, hX, hs⟩ := h.open
  subst hn
  refine aJ (o_bslice (vls := (news.map eA).map fun x => [x]) (len := news.length) ht hs hx hps (by simp) (bytes_cells news) (by intro l hl; simp at hl; obtain ⟨_, _, rfl⟩ := hl; rfl) (by omega) h0 hd (fun b w1 hb _ hs1 => ?_))
  rw [bytes_flat] at hs1
  have hs2 : Sl e 1 w0 w1 ((b, .cells (news.map eA).toArray e (0, 0)) :: L) v m (out.map eA) := by
    refine SlX.close (L := (b, .cells (news.map eA).toArray e (0, 0)) :: L) hX ?_
    simpa using hs1
  refine aJ (fA (k := news.length) (news := news.map eA) ht (.inr ⟨_, hE.under⟩) hs2 (hsv _) (by simp [ev, upd_same]; rfl) (src_own (k := 0) hs2.st rfl (by simp)) (dH _) hlen hbytes hd2 (fun v' w' h' => ?_))
  rw [← List.map_append] at h'
  exact hk b v' w' (h'.drop hb)
end
section
variable {P : Program} {ρ : Env} {w : World}
theorem po_eqlT {T T' : TypeId} {x y : Operand} {k : IntKind} {a b : Int} (hx : ev ρ x = some (.int k a)) (hy : ev ρ y = some (.int k b)) (h : a = b) : PO P (.binOp .eql T x y T') ρ w (.bool true) := by
  have q := bI (P := P) (w := w) (T := T) (T' := T') hx hy
  rwa [decide_eq_true h] at q
theorem po_eqlF {T T' : TypeId} {x y : Operand} {k : IntKind} {a b : Int} (hx : ev ρ x = some (.int k a)) (hy : ev ρ y = some (.int k b)) (h : a ≠ b) : PO P (.binOp .eql T x y T') ρ w (.bool false) := by
  have q := bI (P := P) (w := w) (T := T) (T' := T') hx hy
  rwa [decide_eq_false h] at q
theorem po_gtrT {T T' : TypeId} {x y : Operand} {k : IntKind} {a b : Int} (hx : ev ρ x = some (.int k a)) (hy : ev ρ y = some (.int k b)) (h : b < a) : PO P (.binOp .gtr T x y T') ρ w (.bool true) := by
  have q := cQ (P := P) (w := w) (T := T) (T' := T') hx hy
  rwa [decide_eq_true h] at q
theorem po_gtrF {T T' : TypeId} {x y : Operand} {k : IntKind} {a b : Int} (hx : ev ρ x = some (.int k a)) (hy : ev ρ y = some (.int k b)) (h : ¬ b < a) : PO P (.binOp .gtr T x y T') ρ w (.bool false) := by
  have q := cQ (P := P) (w := w) (T := T) (T' := T') hx hy
  rwa [decide_eq_false h] at q
theorem equalIn_mapS (d : Nat) {T kt et : TypeId} {b : Nat} (hT : P.underlying T = some (.map kt et)) : (Op.equalIn (d + 1) T (.map (some b)) (.map none)).run P w = .ok false w := by
  simp [Op.equalIn, run_underlying hT]
theorem equalIn_mapN (d : Nat) {T kt et : TypeId} (hT : P.underlying T = some (.map kt et)) : (Op.equalIn (d + 1) T (.map none) (.map none)).run P w = .ok true w := by
  simp [Op.equalIn, run_underlying hT]
theorem po_neq_mapS {T T' kt et : TypeId} {x : Operand} {b : Nat} (hT : P.underlying T = some (.map kt et)) (hx : ev ρ x = some (.map (some b))) : PO P (.binOp .neq T x (.const (.map none)) T') ρ w (.bool true) :=
  bin_gen hx (y := .const (.map none)) rfl (by unfold eqGuard; cases x <;> rfl) (binOp_neq_gen (r := false) (by simp) (by simp) (by simp) (by simp) (by simp) (equalIn_mapS 9999 hT))
theorem po_neq_mapN {T T' kt et : TypeId} {x : Operand} (hT : P.underlying T = some (.map kt et)) (hx : ev ρ x = some (.map none)) : PO P (.binOp .neq T x (.const (.map none)) T') ρ w (.bool false) :=
  bin_gen hx (y := .const (.map none)) rfl (by unfold eqGuard; cases x <;> rfl) (binOp_neq_gen (r := true) (by simp) (by simp) (by simp) (by simp) (by simp) (equalIn_mapN 9999 hT))
end
theorem u16sh {n k : Nat} : (n : Int).fdiv (2 ^ (min ((k : Nat) : Int).toNat IntKind.u16.bits)) = ((n / 2 ^ (min k 16) : Nat) : Int) := by
  have e : IntKind.u16.bits = 16 := rfl
  rw [e, Int.toNat_natCast, Int.fdiv_eq_ediv_of_nonneg _ (by exact_mod_cast Nat.zero_le _)]
  norm_cast
theorem u32sh {n k : Nat} : (n : Int).fdiv (2 ^ (min ((k : Nat) : Int).toNat IntKind.u32.bits)) = ((n / 2 ^ (min k 32) : Nat) : Int) := by
  have e : IntKind.u32.bits = 32 := rfl
  rw [e, Int.toNat_natCast, Int.fdiv_eq_ediv_of_nonneg _ (by exact_mod_cast Nat.zero_le _)]
  norm_cast
theorem u16hi {x : Nat} (h : x < 65536) : IntKind.u8.wrap ((x / 256 : Nat) : Int) = ((UInt8.ofNat (x / 256)).toNat : Int) := by
  rw [UInt8.toNat_ofNat_of_lt' (show x / 256 < 256 by omega)]; exact u8w (by omega)
theorem u8lo {x : Nat} : IntKind.u8.wrap (x : Int) = ((UInt8.ofNat x).toNat : Int) := by
  have h1 : IntKind.u8.wrap (x : Int) = (x : Int) % 256 := by simp [IntKind.wrap, IntKind.signed, IntKind.bits]
  rw [h1]
  simp
theorem po_slice_arrLH {P : Program} {ρ : Env} {w : World} {T e : TypeId} {x xl xh : Operand} {n b p m : Nat} {k k' : IntKind} {lo hi : Int} (l h : Nat) (hT : arrSize P T = some (n, e, 1)) (hx : ev ρ x = some (.pointer (some ⟨b, p, none⟩)))
    (hl : ev ρ xl = some (.int k lo)) (hh : ev ρ xh = some (.int k' hi)) (e1 : lo = l) (e2 : hi = h) (h1 : l < n) (h2 : l ≤ h) (h3 : h ≤ n) (hm : m = h - l) :
    PO P (.slice T x (some xl) (some xh) none) ρ w (.slice (some ⟨b, p + l, none⟩) m (n - l)) := by
  subst e1 e2 hm
  have q := po_slice_arr (w := w) hT hx (.yes _ hl (by omega)) (.yes _ hh (by omega)) (by omega) (by omega)
  simp only [Int.toNat_natCast, Nat.mul_one] at q
  rwa [if_neg (by omega)] at q
theorem po_strRest {P : Program} {ρ : Env} {w : World} {T : TypeId} {x xl : Operand} {s : List UInt8} {k : IntKind} {lo : Int} (i : Nat) (hT : P.underlying T = some .string) (hx : ev ρ x = some (fR s)) (hl : ev ρ xl = some (.int k lo)) (e1 : lo = i) (h : i ≤ s.length) :
    PO P (.slice T x (some xl) none none) ρ w (fR (s.drop i)) := by
  subst e1
  have hsz : (fB s).size = s.length := ofBytes_size s
  have q := po_slice_str (w := w) hT hx (.yes _ hl (by omega)) (.no _) (by simp [hsz]; omega) (Nat.le_refl _)
  have e : (fB s).extract (Int.toNat (i : Int)) (fB s).size = fB (s.drop i) := by
    apply ByteArray.ext
    rw [ByteArray.data_extract, hsz, Int.toNat_natCast]
    apply Array.toList_inj.1
    simp [fB, List.take_of_length_le]
  rw [e] at q
  exact q
theorem or192 {n : Nat} (hn : n < 64) : bitsOf .or .u16 ((n : Nat) : Int) ((192 : Nat) : Int) = ((192 + n : Nat) : Int) := by
  rw [u16or (by omega) (by omega)]
  have h : ∀ n, n < 64 → n ||| 192 = 192 + n := by decide +kernel
  rw [h n hn]
theorem ptr_hi {p : Nat} (h : p < 16384) : IntKind.u8.wrap ((192 + p / 256 : Nat) : Int) = ((UInt8.ofNat ((49152 + p) / 256)).toNat : Int) := by
  rw [show (49152 + p) / 256 = 192 + p / 256 by omega]; exact u8lo
theorem ptr_lo {p : Nat} : IntKind.u8.wrap ((p : Nat) : Int) = ((UInt8.ofNat (49152 + p)).toNat : Int) := by
  rw [u8lo]
  congr 1
  simp
theorem run_zeroOf {P : Program} {T : TypeId} {z : Value} (h : zeroOf P T = some z) (w : World) : (zeroValue T).run P w = .ok z w := by
  unfold zeroOf at h
  split at h
  · rename_i i hi
    simp [zeroValue, typeInfo, hi, h]
  · cases h
def fG (B : Base) (L : List (Nat × Obj)) (b p : Nat) (cs : List Value) : Prop := ∀ w M, (∀ x ∈ L, x ∈ M) → St B w M → ∀ j u, cs[j]? = some u → w.cell? ⟨b, p + j, none⟩ = some u
section
variable {B : Base} {L M : List (Nat × Obj)} {b p : Nat} {cs c2 : List Value} {s : List UInt8} {w : World}
theorem fG.view (h : ∀ j u, cs[j]? = some u → B.V.cell b (p + j) = some u) : fG B L b p cs := fun _ _ _ hs j u hu => Vw.cell_in hs.isIn (h j u hu)
theorem fG.own {l : List Value} {E : TypeId} {fz : Nat × Nat} (hm : (b, Obj.cells l.toArray E fz) ∈ L) (h : ∀ j u, cs[j]? = some u → l[p + j]? = some u) : fG B L b p cs := fun w' M' hM hs j u hu => by
  rw [cell_list (hs.own _ (hM _ hm))]; exact h j u hu
theorem fG.more {L' : List (Nat × Obj)} (h : fG B L b p cs) (hl : ∀ x ∈ L, x ∈ L') : fG B L' b p cs := fun w' M' hM hs => h w' M' (fun x hx => hM x (hl x hx)) hs
theorem fG.part (h : fG B L b p cs) (k : Nat) (hc : ∀ j u, c2[j]? = some u → cs[k + j]? = some u) : fG B L b (p + k) c2 := fun w' M' hM hs j u hu => by
  rw [Nat.add_assoc]; exact h w' M' hM hs _ _ (hc j u hu)
theorem fG.ld (h : fG B L b p cs) (hs : St B w M) (hM : ∀ x ∈ L, x ∈ M) (j : Nat) {u : Value} (hu : cs[j]? = some u) : w.cell? ⟨b, p + j, none⟩ = some u := h w M hM hs j u hu
def NameW (B : Base) (L : List (Nat × Obj)) (b p : Nat) (s : List UInt8) : Prop := s.length ≤ 255 ∧ fG B L b p (nmC s s.length)
theorem nmC_at {n i : Nat} (h : i < s.length) : (nmC s n)[i]? = some (.int .u8 (eB s i)) := by
  unfold nmC
  rw [List.append_assoc, List.getElem?_append_left (by simpa using h), List.getElem?_map, List.getElem?_eq_getElem h]
  simp [eA, eB, List.getD_eq_getElem?_getD, List.getElem?_eq_getElem h]
theorem nmC_last {n : Nat} (h : s.length ≤ 255) : (nmC s n)[255]? = some (.int .u8 n) := by
  unfold nmC
  have e : (s.map eA ++ rep (255 - s.length) (.int .u8 0)).length = 255 := by simp; omega
  rw [List.getElem?_append_right (by omega), e]; rfl
theorem NameW.len (h : NameW B L b p s) (hs : St B w M) (hM : ∀ x ∈ L, x ∈ M) : w.cell? ⟨b, p + 255, none⟩ = some (.int .u8 (s.length : Nat)) := h.2 w M hM hs _ _ (nmC_last h.1)
theorem NameW.at (h : NameW B L b p s) (hs : St B w M) (hM : ∀ x ∈ L, x ∈ M) {i : Int} (n : Nat) (hn : i = n) (hl : n < s.length) : w.cell? ⟨b, p + i.toNat * 1, none⟩ = some (.int .u8 (eB s n)) := by
  subst hn
  rw [Nat.mul_one, Int.toNat_natCast]
  exact h.2 w M hM hs _ _ (nmC_at hl)
theorem NameW.rest (h : NameW B L b p s) (hs : St B w M) (hM : ∀ x ∈ L, x ∈ M) {i j : Nat} {u : UInt8} (hu : (s.drop i)[j]? = some u) : w.cell? ⟨b, p + i + j, none⟩ = some (.int .u8 (u.toNat : Nat)) := by
  rw [List.getElem?_drop] at hu
  have hl : i + j < s.length := (List.getElem?_eq_some_iff.1 hu).1
  rw [Nat.add_assoc, h.2 w M hM hs _ _ (nmC_at hl)]
  unfold eB
  rw [List.getD_eq_getElem?_getD, hu]; rfl
theorem NameW.more {L' : List (Nat × Obj)} (h : NameW B L b p s) (hl : ∀ x ∈ L, x ∈ L') : NameW B L' b p s := ⟨h.1, h.2.more hl⟩
end
end Go.Proofs.YtgpfjlfkaoffeaaGreatDoor
namespace Go.Proofs.YtgpfjlfkaoffeaaGreatDoor
open Go
def methOk (P : Program) (T : TypeId) (name : String) (f : FuncId) : Bool :=
  match P.info? T with
  | some i => match i.methods.find? (·.name == name) with
    | some m => m.path.isEmpty && (m.func == some (f, true)) && (match P.underlying T with | some (.pointer _) => true | _ => false)
    | none => false
  | none => false
section
variable {P : Program} {n : Nat} {ρ : Env} {w : World} {K : Env → World → Prop} {d : Tmp} {ty : TypeId} {pos : String} {af : Array Edge}
theorem fC {T : TypeId} {name : String} {f : FuncId} (h : methOk P T name f = true) (fuel : Nat) (v : Value) : (method (fuel + 1) T v name).run P w = .ok (f, v) w := by
  unfold methOk at h
  split at h
  · rename_i i hi
    split at h
    · rename_i m hm
      simp only [Bool.and_eq_true, beq_iff_eq] at h
      obtain ⟨⟨hp, hf⟩, hu⟩ := h
      have hpl : m.path.toList = [] := by simpa using hp
      split at hu
      · rename_i e he
        unfold method
        simp only [Sem.run_bind, typeInfo, run_program, Result.andThen_ok, hi, Sem.run_pure, hm, hpl, follow, hf, receiverAt, run_underlying he, Place.get]
      · cases hu
    · cases h
  · cases h
def methOkE (P : Program) (T : TypeId) (name : String) (f : FuncId) : Bool :=
  match P.info? T with
  | some i => match i.methods.find? (·.name == name) with
    | some m => (m.func == some (f, true)) && (match m.path.toList with
      | [s] => s.deref && (match P.underlying s.struct with
        | some (.struct fields) => match fields[s.index]? with
          | some fl => (fl.offset == 0) && (match P.info? fl.type with | some i2 => i2.size != 0 | none => false) && (match P.underlying fl.type with | some (.struct _) => true | _ => false)
          | none => false
        | _ => false)
      | _ => false)
    | none => false
  | none => false
theorem run_methodE {T : TypeId} {name : String} {f : FuncId} (h : methOkE P T name f = true) (fuel b : Nat) : (method (fuel + 1) T (.pointer (some ⟨b, 0, none⟩)) name).run P w = .ok (f, .pointer (some ⟨b, 0, none⟩)) w := by
  unfold methOkE at h
  split at h
  · rename_i i hi
    split at h
    · rename_i m hm
      simp only [Bool.and_eq_true, beq_iff_eq] at h
      obtain ⟨hf, h⟩ := h
      split at h
      · rename_i s hp
        simp only [Bool.and_eq_true] at h
        obtain ⟨hd, h⟩ := h
        split at h
        · rename_i fields hu
          split at h
          · rename_i fl hfl
            simp only [Bool.and_eq_true, beq_iff_eq] at h
            obtain ⟨⟨ho, hs⟩, hu2⟩ := h
            split at hs
            · rename_i i2 hi2
              have hsz : i2.size ≠ 0 := by simpa using hs
              split at hu2
              · rename_i f2 he2
                unfold method
                simp [typeInfo, hi, hm, hp, follow, hd, hfl, ho, hf, receiverAt, run_underlying hu, run_underlying he2, Place.get, asAddr, fieldPlace, sizeOf, hi2, hsz, Addr.add, Result.andThen]
              · cases hu2
            · cases hs
          · cases h
        · cases h
      · cases h
    · cases h
  · cases h
theorem rc_invoke {x : Operand} {T f : TypeId} {name : String} {v v' : Value} {l : List Operand} {ts : Array TypeId} {vs : List Value} {F : Value → World → Prop} (hm : ∀ fuel, (method (fuel + 1) T v name).run P w = .ok (f, v') w) (hf : eF P f = true)
    (hx : ev ρ x = some (.iface T v)) (hl : evL ρ l = some vs) (h : eC P f (v' :: vs).toArray w F) : RC P (.call { callee := .invoke x name, args := l.toArray, argTypes := ts }) ρ w F := by
  intro o e ho he
  have hml : l.toArray.map e = vs.toArray := by have := he.list hl; rw [← this]; simp
  obtain ⟨k, hk⟩ : ∃ k, P.types.size + Made.depth = k + 1 := ⟨P.types.size + 99, by unfold Made.depth; omega⟩
  refine ⟨f, (v' :: vs).toArray, w, ?_, h⟩
  simp only [execOp, ho, resolve, he _ _ hx, hml, Sem.run_bind, Sem.run_pure, Result.andThen_ok]
  simp [invoke, callMethod, hk, hm, run_callFunc hf, Result.andThen]
theorem l_invoke {ops : Array Oper} {rest : List Oper} {x : Operand} {T f : TypeId} {name : String} {v v' : Value} {l : List Operand} {ts : Array TypeId} {vs : List Value} {F : Value → World → Prop} (hm : ∀ fuel, (method (fuel + 1) T v name).run P w = .ok (f, v') w)
    (hf : eF P f = true) (hx : ev ρ x = some (.iface T v)) (hl : evL ρ l = some vs) (h : eC P f (v' :: vs).toArray w F) (hd : Nat.blt d n = true) (hk : ∀ v w', F v w' → LW P n ops rest K (eH ρ d v) w') :
    LW P n ops (⟨some d, .call { callee := .invoke x name, args := l.toArray, argTypes := ts }, ty, pos, af, none⟩ :: rest) K ρ w :=
  aJ (cF (rc_invoke hm hf hx hl h) hd hk)
end
section
variable {P : Program} {n : Nat} {ρ : Env} {w0 : Base} {w : World} {L : List (Nat × Obj)} {K : Env → World → Prop} {d d2 : Tmp} {ty ty2 : TypeId} {pos pos2 : String} {af af2 : Array Edge} {ops : Array Oper} {rest : List Oper}
theorem l_appAt {t e E : TypeId} {bytes len p c kk b : Nat} {zs l : List Value} {ps : List (Nat × Operand)} {s : Operand} {L' : List (Nat × Obj)} (news : List UInt8) (ht : eltOk P t = some (e, 1, bytes, zs)) (hs : St w0 w L)
    (hsv : ∀ u, ev (eH ρ d u) s = some (.slice (some ⟨b, p, none⟩) 0 c)) (hx : evL ρ (ps.map (·.2)) = some (news.map eA)) (hps : ps.map (·.1) = List.range len) (hn : news.length = len) (h0 : 0 < len) (hsm : len ≤ 16777216)
    (hkk : lget L kk = some (b, .cells l.toArray E (0, 0))) (hroom : len ≤ c) (hfit : p + len ≤ l.length) (hL : lset L kk (b, .cells (l.take p ++ news.map eA ++ l.drop (p + len)).toArray E (0, 0)) = some L')
    (hd : Nat.blt d n = true) (hd2 : Nat.blt d2 n = true) (hk : ∀ b' w', St w0 w' L' → LW P n ops rest K (eH (eH ρ d (.slice (some ⟨b', 0, none⟩) len len)) d2 (.slice (some ⟨b, p, none⟩) (0 + len) c)) w') :
    LW P n ops (⟨some d, .buildSlice t len ps.toArray, ty, pos, af, none⟩ :: ⟨some d2, .call { callee := .builtin .append, args := #[s, .tmp d], argTypes := #[t, t] }, ty2, pos2, af2, none⟩ :: rest) K ρ w := by
  have hE := eltOk_spec ht
  subst hn
  refine aJ (o_bslice (vls := (news.map eA).map fun x => [x]) (len := news.length) ht hs hx hps (by simp) (bytes_cells news) (by intro l hl; simp at hl; obtain ⟨_, _, rfl⟩ := hl; rfl) (by omega) h0 hd (fun b1 w1 hb _ hs1 => ?_))
  rw [bytes_flat] at hs1
  refine aJ (o_appendAt (E := E) (l := l) (c := c) (p := p) (k := news.length) (news := news.map eA) (kk := kk + 1) (L' := (b1, .cells (news.map eA).toArray e (0, 0)) :: L') ht (.inr ⟨_, hE.under⟩) hs1 (hsv _) (by simp [ev, upd_same]; rfl) (src_own (k := 0) hs1 rfl (by simp)) (dH _) ?_ (by omega) (by omega) ?_ hd2 (fun w' h' => ?_))
  · exact hkk
  · simp only [Nat.mul_one, Nat.zero_mul, Nat.add_zero, lset, hL]
  · exact hk b1 w' (h'.drop hb)
end
end Go.Proofs.YtgpfjlfkaoffeaaGreatDoor

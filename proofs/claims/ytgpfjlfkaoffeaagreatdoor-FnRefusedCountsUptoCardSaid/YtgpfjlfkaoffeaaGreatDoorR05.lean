/- The proof layer of this claim, eighth part: parts of bytes, names in memory, stores at any place. The proof layer of this claim, ninth part: struct values put together. What values in memory stand for: texts, pairs, questions, records, what a step returns. The proof layer of this claim, tenth part: own slices beside other owned blocks, one element put behind. -/
import Derived.Test.YtgpfjlfkaoffeaaGreatDoorR04
set_option linter.all false
namespace Go.Proofs.YtgpfjlfkaoffeaaGreatDoor
open Go
theorem lset_of {α : Type} {l : List α} {p : Nat} (v : α) (h : p < l.length) : lset l p v = some (l.set p v) := by
  induction l generalizing p with
  | nil => simp at h
  | cons x r ih =>
    cases p with
    | zero => rfl
    | succ p => simp only [lset, ih (by simpa using h)]; rfl
section
variable {P : Program} {n : Nat} {ρ : Env} {w0 : Base} {w : World} {L : List (Nat × Obj)} {K : Env → World → Prop} {d : Tmp} {ty : TypeId} {pos : String} {af : Array Edge} {g : Option (Nat × Bool)}
theorem o_storeP {T : TypeId} {x y : Operand} {kk k b p : Nat} {l l' : List Value} {E : TypeId} {v : Value} {L' : List (Nat × Obj)} (hs : St w0 w L) (hT : eK P T = some (false, kk)) (h1 : kk = 1)
    (hx : ev ρ x = some (.pointer (some ⟨b, p, none⟩))) (hy : ev ρ y = some v) (hv : v.oneCell' = true) (hk : lget L k = some (b, .cells l.toArray E (0, 0))) (hp : p < l.length) (hl : l.set p v = l')
    (hL : lset L k (b, .cells l'.toArray E (0, 0)) = some L') (hK : ∀ w', St w0 w' L' → K ρ w') : OW P n ⟨none, .store T x y, ty, pos, af, g⟩ K ρ w := by
  subst hl
  exact aS hs hT h1 hx hy hv hk (lset_of v hp) hL hK
theorem po_fa0' {S : TypeId} {x : Operand} {f b p : Nat} (hS : eD P S f = some 0) (hx : ev ρ x = some (.pointer (some ⟨b, p, none⟩))) :
    PO P (.fieldAddr S x f) ρ w (.pointer (some ⟨b, p, none⟩)) := bD hS hx
theorem po_part {T e : TypeId} {x xl xh : Operand} {k k' : IntKind} {b p len cap : Nat} {lo hi : Int} (l m : Nat) (hT : fK P T = some (e, 1)) (hx : ev ρ x = some (.slice (some ⟨b, p, none⟩) len cap)) (hl : ev ρ xl = some (.int k lo))
    (hh : ev ρ xh = some (.int k' hi)) (h1 : lo = l) (h2 : hi = (l + m : Nat)) (h0 : 0 < m) (hc : l + m ≤ cap) : PO P (.slice T x (some xl) (some xh) none) ρ w (.slice (some ⟨b, p + l, none⟩) m (cap - l)) := by
  subst h1 h2
  have h := po_slice (w := w) hT hx (.yes _ hl (by omega)) (.yes _ hh (by omega)) (by omega) (by omega)
  have e1 : sliceAddr (some ⟨b, p, none⟩) ((l : Int)).toNat cap 1 = some ⟨b, p + l, none⟩ := by
    simp only [Int.toNat_natCast, sliceAddr]
    rw [if_neg (by omega)]
    simp [add_at]
  have e2 : ((l + m : Nat) : Int).toNat - ((l : Int)).toNat = m := by omega
  rw [e1, e2, Int.toNat_natCast] at h
  exact h
theorem po_slice_arr0 {T e : TypeId} {x : Operand} {n b p k : Nat} {kk : IntKind} (hT : arrSize P T = some (n, e, k)) (h0 : 0 < n) (hx : ev ρ x = some (.pointer (some ⟨b, p, none⟩))) :
    PO P (.slice T x none (some (.const (.int kk 0))) none) ρ w (.slice (some ⟨b, p, none⟩) 0 n) := by
  have h := po_slice_arr (w := w) (hi := some (.const (.int kk 0))) hT hx (.no _) (.yes (k := kk) (i := 0) _ rfl (by omega)) (by omega) (by simp)
  rw [if_neg (by omega)] at h
  simpa using h
end
theorem byteAt_seg {l : List UInt8} {i n j : Nat} (h : j < n) : eB (seg l i n) j = eB l (i + j) := by
  simp [eB, seg, List.getD, h]
theorem cells_seg {V : Vw} {l : List UInt8} {b p i n : Nat} (hc : ∀ i, i < l.length → V.cell b (p + i) = some (.int .u8 (eB l i))) (h : i + n ≤ l.length) :
    ∀ j, j < (seg l i n).length → V.cell b (p + i + j) = some (.int .u8 (eB (seg l i n) j)) := by
  intro j hj
  rw [seg_len h] at hj
  rw [byteAt_seg hj, Nat.add_assoc]
  exact hc _ (by omega)
theorem getElem_byte {l : List UInt8} {j : Nat} {u : Value} (h : (l.map eA)[j]? = some u) : j < l.length ∧ u = .int .u8 (eB l j) := by
  simp only [List.getElem?_map, Option.map_eq_some_iff] at h
  obtain ⟨x, hx, rfl⟩ := h
  have hlt : j < l.length := by
    rcases Nat.lt_or_ge j l.length with h' | h'
    · exact h'
    · simp [List.getElem?_eq_none h'] at hx
  refine ⟨hlt, ?_⟩
  simp only [eA, eB, List.getD, hx, Option.getD_some]
theorem src_seg {P : Program} {V : Vw} {w : World} {l : List UInt8} {b p i n c : Nat} (hV : V.In w) (hc : ∀ i, i < l.length → V.cell b (p + i) = some (.int .u8 (eB l i))) (h : i + n ≤ l.length) :
    Src P w 1 (.slice (some ⟨b, p + i, none⟩) n c) n ((seg l i n).map eA) := by
  refine src_slice (by simp [seg_len h]) fun j u hu => ?_
  obtain ⟨hj, rfl⟩ := getElem_byte hu
  exact Vw.cell_in hV (cells_seg hc h j hj)
theorem has46 {l : List UInt8} : l.contains 46 = true ↔ ∃ j, j < l.length ∧ eB l j = 46 := by
  rw [List.contains_iff_mem, List.mem_iff_getElem]
  constructor
  · rintro ⟨j, hj, he⟩
    exact ⟨j, hj, by simp [eB, List.getD, List.getElem?_eq_getElem hj, he]⟩
  · rintro ⟨j, hj, he⟩
    refine ⟨j, hj, ?_⟩
    simp only [eB, List.getD, List.getElem?_eq_getElem hj, Option.getD_some] at he
    exact UInt8.toNat_inj.1 he
theorem dH (l : List UInt8) : Flat (l.map eA) := fun v hv => by
  obtain ⟨x, _, rfl⟩ := List.mem_map.1 hv
  rfl
def nmC (out : List UInt8) (n : Nat) : List Value := out.map eA ++ rep (255 - out.length) (.int .u8 0) ++ [.int .u8 n]
theorem cM {out : List UInt8} {n : Nat} (h : out.length ≤ 255) : (nmC out n).length = 256 := by simp [nmC]; omega
theorem eU (out : List UInt8) (n : Nat) : Flat (nmC out n) := fD (fD (dH out) (flat_rep _ rfl)) (bX rfl eQ)
theorem nmC_app {pre post : List Value} {out news : List UInt8} {n np : Nat} (hp : pre.length = np) (h : out.length + news.length ≤ 255) :
    (pre ++ nmC out n ++ post).take (np + out.length * 1) ++ news.map eA ++ (pre ++ nmC out n ++ post).drop (np + out.length * 1 + news.length * 1) = pre ++ nmC (out ++ news) n ++ post := by
  subst hp
  have e1 : pre ++ nmC out n ++ post = (pre ++ out.map eA) ++ (rep (255 - out.length) (.int .u8 0) ++ [.int .u8 n] ++ post) := by simp [nmC]
  have e2 : pre.length + out.length * 1 = (pre ++ out.map eA).length := by simp
  rw [e1, ← List.drop_drop, e2, List.take_left, List.drop_left]
  have e3 : (255 - out.length) = news.length + (255 - (out ++ news).length) := by simp; omega
  have e4 : rep (255 - out.length) (Value.int .u8 0) = rep news.length (.int .u8 0) ++ rep (255 - (out ++ news).length) (.int .u8 0) := by rw [e3]; simp [rep, List.replicate_append_replicate]
  rw [e4, Nat.mul_one]
  have e5 : (rep news.length (Value.int .u8 0) ++ rep (255 - (out ++ news).length) (.int .u8 0) ++ [Value.int .u8 n] ++ post).drop news.length = rep (255 - (out ++ news).length) (Value.int .u8 0) ++ [Value.int .u8 n] ++ post := by
    rw [List.append_assoc, List.append_assoc, List.drop_left' (by simp)]
    simp
  rw [e5]
  simp [nmC]
theorem nmC_set {pre post : List Value} {out : List UInt8} {n m np : Nat} (hp : pre.length = np) (h : out.length ≤ 255) :
    (pre ++ nmC out n ++ post).set (np + 255) (.int .u8 m) = pre ++ nmC out m ++ post := by
  subst hp
  have e1 : ∀ k, pre ++ nmC out k ++ post = (pre ++ (out.map eA ++ rep (255 - out.length) (.int .u8 0))) ++ (.int .u8 k :: post) := fun k => by simp [nmC]
  rw [e1, e1, List.set_append_right _ _ (by simp; omega)]
  have : pre.length + 255 - (pre ++ (out.map eA ++ rep (255 - out.length) (Value.int .u8 0))).length = 0 := by simp; omega
  rw [this]
  rfl
section
variable {P : Program} {n : Nat} {ρ : Env} {w0 : Base} {w : World} {L : List (Nat × Obj)} {K : Env → World → Prop} {d : Tmp} {ty : TypeId} {pos : String} {af : Array Edge} {g : Option (Nat × Bool)}
theorem o_appName {t u e : TypeId} {bytes m kk nb np z : Nat} {zs pre post : List Value} {out news : List UInt8} {s x : Operand} {xv : Value} {E : TypeId} {L' : List (Nat × Obj)} (ht : eltOk P t = some (e, 1, bytes, zs)) (hu : SS P u)
    (hs : St w0 w L) (hpre : pre.length = np) (hsv : ev ρ s = some (.slice (some ⟨nb, np, none⟩) out.length 255)) (hx : ev ρ x = some xv) (hsrc : Src P w 1 xv m (news.map eA)) (hm : m = news.length)
    (hkk : lget L kk = some (nb, .cells (pre ++ nmC out z ++ post).toArray E (0, 0))) (hroom : out.length + news.length ≤ 255)
    (hL : lset L kk (nb, .cells (pre ++ nmC (out ++ news) z ++ post).toArray E (0, 0)) = some L') (hd : Nat.blt d n = true)
    (hk : ∀ w', St w0 w' L' → K (eH ρ d (.slice (some ⟨nb, np, none⟩) (out ++ news).length 255)) w') :
    OW P n ⟨some d, .call { callee := .builtin .append, args := #[s, x], argTypes := #[t, u] }, ty, pos, af, g⟩ K ρ w := by
  subst hm
  have e1 := nmC_app (pre := pre) (post := post) (out := out) (news := news) (n := z) hpre hroom
  refine o_appendAt (kk := kk) (k := news.length) (l := pre ++ nmC out z ++ post) (L' := L') ht hu hs hsv hx hsrc (dH _) hkk hroom ?_ (by rw [e1]; exact hL) hd ?_
  · rw [List.length_append, List.length_append, cM (by omega)]; omega
  · intro w' hs'
    have := hk w' hs'
    rwa [List.length_append] at this
end
theorem i64shl8 {a : Nat} (h : a < 65536) : IntKind.i64.wrap ((a : Int) * 2 ^ (min (8 : Int).toNat IntKind.i64.bits)) = ((a * 256 : Nat) : Int) := by
  have : (2 : Int) ^ (min (8 : Int).toNat IntKind.i64.bits) = 256 := by decide
  rw [this]
  exact fV (by omega) (by omega)
theorem nameS_e (b : List UInt8) (i : Nat) (out : List UInt8) (j e e' : Nat) (hj : j = 0) : fS b i out j e = fS b i out j e' := by
  fun_induction fS b i out j e with
  | case1 i out jumps e hi h0 h1 => rw [fS, dif_pos hi, if_pos h0, if_pos h1]
  | case2 i out jumps e hi h0 h1 => rw [fS, dif_pos hi, if_pos h0, if_neg h1]; simp [hj]
  | case3 i out jumps e hi h0 hc hl hd => rw [fS, dif_pos hi, if_neg h0, dif_pos hc, dif_pos hl, if_pos hd]
  | case4 i out jumps e hi h0 hc hl hd ih =>
    rw [ih hj]
    conv => rhs; rw [fS, dif_pos hi, if_neg h0, dif_pos hc, dif_pos hl, if_neg hd]
  | case5 i out jumps e hi h0 hc hl => rw [fS, dif_pos hi, if_neg h0, dif_pos hc, dif_neg hl]
  | case6 i out jumps e hi h0 hc hc2 hl hj' ih =>
    conv => rhs; rw [fS, dif_pos hi, if_neg h0, dif_neg hc, if_pos hc2, if_pos hl, dif_pos hj']
    simp [hj]
  | case7 i out jumps e hi h0 hc hc2 hl hj' => rw [fS, dif_pos hi, if_neg h0, dif_neg hc, if_pos hc2, if_pos hl, dif_neg hj']
  | case8 i out jumps e hi h0 hc hc2 hl => rw [fS, dif_pos hi, if_neg h0, dif_neg hc, if_pos hc2, if_neg hl]
  | case9 i out jumps e hi h0 hc hc2 => rw [fS, dif_pos hi, if_neg h0, dif_neg hc, if_neg hc2]
  | case10 i out jumps e hi => rw [fS, dif_neg hi]
theorem RB.part {V : Vw} {a : Option Addr} {cap i m : Nat} {l : List UInt8} (hb : RB V (.slice a l.length cap) l) (h : i + m ≤ l.length) : RB V (.slice (sliceAddr a i cap 1) m (cap - i)) (seg l i m) := by
  have hm : (seg l i m).length = m := seg_len h
  unfold RB
  rw [hm]
  refine ⟨by simp [hm], ?_⟩
  rcases hb.2 with ⟨h1, h2⟩ | ⟨b, p, c, h1, h2, h3⟩
  · have hl : l.length = 0 := h2
    have hi : i = 0 := by omega
    have hm0 : m = 0 := by omega
    subst hi hm0
    simp only [Value.slice.injEq] at h1
    obtain ⟨rfl, _, rfl⟩ := h1
    exact .inl ⟨rfl, rfl⟩
  · simp only [Value.slice.injEq] at h1
    obtain ⟨rfl, _, rfl⟩ := h1
    by_cases hc : cap = i
    · subst hc
      have hm0 : m = 0 := by omega
      subst hm0
      refine .inr ⟨b, p, cap - cap, by simp [sliceAddr], by omega, fun j u hu => ?_⟩
      have : (seg l cap 0).map eA = [] := by simp [seg]
      rw [this] at hu
      simp at hu
    · refine .inr ⟨b, p + i, cap - i, by simp [sliceAddr, hc, add_at], by omega, fun j u hu => ?_⟩
      obtain ⟨hj, rfl⟩ := getElem_byte hu
      rw [hm] at hj
      rw [byteAt_seg hj, Nat.add_assoc]
      refine h3 _ _ ?_
      have hlt : i + j < l.length := by omega
      simp [eA, eB, List.getD, List.getElem?_eq_getElem hlt]
section
variable {P : Program} {ρ : Env} {w : World}
theorem po_partR {T e : TypeId} {x xl xh : Operand} {k k' : IntKind} {a : Option Addr} {len cap : Nat} {lo hi : Int} (l m : Nat) (hT : fK P T = some (e, 1)) (hx : ev ρ x = some (.slice a len cap)) (hl : ev ρ xl = some (.int k lo))
    (hh : ev ρ xh = some (.int k' hi)) (h1 : lo = l) (h2 : hi = (l + m : Nat)) (hc : l + m ≤ cap) : PO P (.slice T x (some xl) (some xh) none) ρ w (.slice (sliceAddr a l cap 1) m (cap - l)) := by
  subst h1 h2
  have h := po_slice (w := w) hT hx (.yes _ hl (by omega)) (.yes _ hh (by omega)) (by omega) (by omega)
  have e2 : ((l + m : Nat) : Int).toNat - ((l : Int)).toNat = m := by omega
  rw [e2, Int.toNat_natCast] at h
  exact h
theorem po_tailR {T e : TypeId} {x xl : Operand} {k : IntKind} {a : Option Addr} {len cap : Nat} {lo : Int} (l : Nat) (hT : fK P T = some (e, 1)) (hx : ev ρ x = some (.slice a len cap)) (hl : ev ρ xl = some (.int k lo))
    (h1 : lo = l) (h2 : l ≤ len) (hc : len ≤ cap) : PO P (.slice T x (some xl) none none) ρ w (.slice (sliceAddr a l cap 1) (len - l) (cap - l)) := by
  subst h1
  have h := po_slice (w := w) hT hx (.yes _ hl (by omega)) (.no _) (by omega) hc
  rw [Int.toNat_natCast] at h
  exact h
theorem po_bytesStrR {S D e : TypeId} {x : Operand} {V : Vw} {v : Value} {l : List UInt8} (hb : RB V v l) (hV : V.In w) (hS : P.underlying S = some (.slice e)) (he : P.underlying e = some (.int .u8)) (hD : P.underlying D = some .string)
    (hx : ev ρ x = some v) : PO P (.convert S D x) ρ w (.string (fB l)) := by
  rcases hb.2 with ⟨h1, h2⟩ | ⟨b, p, c, h1, h2, h3⟩
  · have : l = [] := List.eq_nil_of_length_eq_zero h2
    subst this h1
    exact po_bytesStr_nil hS he hD hx
  · subst h1
    exact po_bytesStr hS he hD hx fun i u hi => Vw.cell_in hV (h3 i _ (by simp [hi, eA]))
end
theorem RB.src {P : Program} {w : World} {V : Vw} {v : Value} {l : List UInt8} (h : RB V v l) (hV : V.In w) : Src P w 1 v l.length (l.map eA) := SlV.src h hV
theorem RB.len {P : Program} {w : World} {V : Vw} {v : Value} {l : List UInt8} (h : RB V v l) : (Builtin.lenOf v).run P w = .ok l.length w := by
  obtain ⟨a, cap, rfl, _⟩ := h.form
  simp [Builtin.lenOf]
end Go.Proofs.YtgpfjlfkaoffeaaGreatDoor
namespace Go.Proofs.YtgpfjlfkaoffeaaGreatDoor
open Go
def fillL (place : Nat → Option (Nat × Nat)) : List Value → List (Nat × List Value) → Option (List Value)
  | cells, [] => some cells
  | cells, (i, vl) :: rest => match place i with
    | some (off, s) => if vl.length = s ∧ off + s ≤ cells.length then fillL place (cells.take off ++ vl ++ cells.drop (off + s)) rest else none
    | none => none
theorem fill_of_fillL {place : Nat → Option (Nat × Nat)} : ∀ (is : List Nat) (vs : List Value) (cls : List (List Value)) (cells l : List Value), vs.map (·.cells) = cls.map (·.toArray) →
    fillL place cells (is.zip cls) = some l → is.length = vs.length → Instr.fill place cells.toArray (is.zip vs) = some l.toArray
  | [], vs, cls, cells, l, hc, h, hl => by
    simp [fillL] at h
    subst h
    simp [Instr.fill]
  | i :: is, vs, cls, cells, l, hc, h, hl => by
    cases vs with
    | nil => simp at hl
    | cons v vs =>
      cases cls with
      | nil => simp at hc
      | cons c cls =>
        simp only [List.map_cons, List.cons.injEq] at hc
        simp only [List.zip_cons_cons, fillL] at h
        split at h
        · rename_i off s hp
          split at h
          · rename_i hh
            rw [List.zip_cons_cons, fill_step (vl := c) hp hc.1 hh.1 (by simpa using hh.2)]
            exact fill_of_fillL is vs cls _ l hc.2 h (by simpa using hl)
          · cases h
        · cases h
def placesOf (P : Program) (T : TypeId) : Option (List (Nat × Nat) × List Value) :=
  match P.info? T, P.underlying T with
  | some it, some (.struct fields) =>
    match it.zero, fields.toList.mapM (fun f => (P.info? f.type).map fun i => (f.offset, i.size)) with
    | some z, some places => some (places, z.cells.toList)
    | _, _ => none
  | _, _ => none
def builtL (P : Program) (T : TypeId) (parts : List (Nat × List Value)) : Option (List Value) :=
  match placesOf P T with
  | some (places, zs) => fillL (places.toArray[·]?) zs parts
  | none => none
theorem built_of_builtL {P : Program} {T : TypeId} {is : List Nat} {vs : List Value} {cls : List (List Value)} {l : List Value} (hc : vs.map (·.cells) = cls.map (·.toArray))
    (h : builtL P T (is.zip cls) = some l) (hl : is.length = vs.length) : P.built T (is.zip vs) = some l.toArray := by
  unfold builtL placesOf at h
  unfold Program.built
  cases hit : P.info? T with
  | none => simp [hit] at h
  | some it =>
    cases hu : P.underlying T with
    | none => simp [hit, hu] at h
    | some d =>
      cases d with
      | struct fields =>
        simp only [hit, hu] at h ⊢
        cases hz : it.zero with
        | none => simp [hz] at h
        | some z =>
          cases hp : fields.toList.mapM (fun f => (P.info? f.type).map fun i => (f.offset, i.size)) with
          | none => simp [hz, hp] at h
          | some places =>
            simp only [hz, hp] at h ⊢
            have := fill_of_fillL is vs cls _ l hc h hl
            simpa using this
      | _ => simp [hit, hu] at h
theorem cells_one {v : Value} (h : v.oneCell' = true) : v.cells = #[v] := by
  cases v <;> first | rfl | simp [Value.oneCell'] at h
section
variable {P : Program} {ρ : Env} {w : World}
theorem evL_len {ρ : Env} : ∀ {l : List Operand} {vs : List Value}, evL ρ l = some vs → l.length = vs.length
  | [], vs, h => by simp [evL] at h; subst h; rfl
  | x :: r, vs, h => by
    simp only [evL] at h
    split at h
    · rename_i v vs' hv hvs
      simp at h; subst h
      simp [evL_len hvs]
    · cases h
theorem po_buildL {T : TypeId} {ps : List (Nat × Operand)} {vs : List Value} {cls : List (List Value)} {l : List Value} (hv : evL ρ (ps.map (·.2)) = some vs) (hc : vs.map (·.cells) = cls.map (·.toArray))
    (h : builtL P T ((ps.map (·.1)).zip cls) = some l) : PO P (.build T ps.toArray) ρ w (.agg l.toArray) :=
  bM hv (built_of_builtL hc h (by have := evL_len hv; simpa using this))
theorem bL {T : TypeId} {ps : List (Nat × Operand)} {vs : List Value} {l : List Value} (hv : evL ρ (ps.map (·.2)) = some vs) (hone : (vs.all Value.oneCell') = true)
    (h : builtL P T ((ps.map (·.1)).zip (vs.map fun v => [v])) = some l) : PO P (.build T ps.toArray) ρ w (.agg l.toArray) := by
  refine po_buildL hv ?_ h
  rw [List.map_map]
  apply List.map_congr_left
  intro v hv'
  have := List.all_eq_true.1 hone v hv'
  simp [cells_one this]
def contig : Nat → List (Nat × Nat) → Option (List Nat)
  | _, [] => some []
  | o, (a, s) :: r => if a = o then (contig (o + s) r).map fun l => s :: l else none
def structL (P : Program) (T : TypeId) : Option (List Nat) :=
  match placesOf P T with
  | some (places, zs) => match contig 0 places with
    | some l => if zs.length = l.sum then some l else none
    | none => none
  | none => none
theorem fillL_full : ∀ (o : Nat) (sizes : List Nat) (places : List (Nat × Nat)) (cls : List (List Value)) (all : List (Nat × Nat)) (k : Nat) (pre post : List Value), contig o places = some sizes → cls.map List.length = sizes →
    pre.length = o → post.length = sizes.sum → all.drop k = places → fillL (all.toArray[·]?) (pre ++ post) ((List.range' k cls.length).zip cls) = some (pre ++ cls.flatten)
  | o, sizes, places, [], all, k, pre, post, hcon, hl, hpre, hpost, hall => by
    simp at hl
    subst hl
    simp at hpost
    subst hpost
    simp [fillL]
  | o, sizes, places, c :: cls, all, k, pre, post, hcon, hl, hpre, hpost, hall => by
    cases places with
    | nil => simp [contig] at hcon; subst hcon; simp at hl
    | cons p r =>
      obtain ⟨a, s⟩ := p
      simp only [contig] at hcon
      split at hcon
      · rename_i ha
        subst ha
        rw [Option.map_eq_some_iff] at hcon
        obtain ⟨l, hl2, rfl⟩ := hcon
        simp only [List.map_cons, List.cons.injEq] at hl
        have hk : all[k]? = some (a, s) := by
          have : (all.drop k)[0]? = some (a, s) := by rw [hall]; rfl
          simpa using this
        simp only [List.length_cons, List.range'_succ, List.zip_cons_cons, fillL, List.getElem?_toArray, hk]
        simp only [List.sum_cons] at hpost
        rw [if_pos ⟨hl.1, by simp; omega⟩]
        have e1 : (pre ++ post).take a = pre := by rw [← hpre]; exact List.take_left
        have e2 : (pre ++ post).drop (a + s) = post.drop s := by rw [← hpre, ← List.drop_drop, List.drop_left]
        rw [e1, e2]
        have := fillL_full (a + s) l r cls all (k + 1) (pre ++ c) (post.drop s) hl2 hl.2 (by simp; omega) (by simp; omega) (by
          rw [← List.drop_drop, hall]; rfl)
        simp only [List.getElem?_toArray] at this
        rw [this]
        simp
      · cases hcon
theorem builtL_full {T : TypeId} {sizes : List Nat} {cls : List (List Value)} (hS : structL P T = some sizes) (hl : cls.map List.length = sizes) : builtL P T ((List.range cls.length).zip cls) = some cls.flatten := by
  unfold structL at hS
  unfold builtL
  split at hS
  · rename_i places zs hp
    split at hS
    · rename_i l hc
      split at hS
      · rename_i hz
        simp at hS
        subst hS
        have := fillL_full 0 l places cls places 0 [] zs hc hl rfl hz rfl
        rw [List.range_eq_range']
        simpa using this
      · cases hS
    · cases hS
  · cases hS
theorem po_buildF {T : TypeId} {sizes : List Nat} {ps : List (Nat × Operand)} {vs : List Value} {cls : List (List Value)} (hS : structL P T = some sizes) (hv : evL ρ (ps.map (·.2)) = some vs) (hps : ps.map (·.1) = List.range cls.length)
    (hc : vs.map (·.cells) = cls.map (·.toArray)) (hl : cls.map List.length = sizes) : PO P (.build T ps.toArray) ρ w (.agg cls.flatten.toArray) :=
  po_buildL hv hc (by rw [hps]; exact builtL_full hS hl)
end
theorem set_behind {a b : List Value} {n i : Nat} (h : a.length = n) (v : Value) : (a ++ b).set (n + i) v = a ++ b.set i v := by
  subst h
  rw [List.set_append_right _ _ (by omega)]
  congr 2
  omega
theorem cT {P : Program} {T : TypeId} {w : World} {kk b p n i : Nat} {a l : List Value} {E : TypeId} {fz : Nat × Nat} {v : Value} (hk : eK P T = some (false, kk)) (hb : w.heap[b]? = some (.cells (a ++ l).toArray E fz)) (ha : a.length = n)
    (hv : lget l i = some v) (hp : p = n + i) : (loadVar T ⟨b, p, none⟩).run P w = .ok v w := by
  subst hp ha
  refine aQ hk hb ?_
  rw [lget_eq] at hv ⊢
  rw [List.getElem?_append_right (by omega)]
  simpa using hv
theorem dG {P : Program} {n : Nat} {x y : Code} {Q : QE} {ρ : Env} {w : World} (K : Env → World → Prop) (hx : EW P n x (thenQ K Q) ρ w) (hy : ∀ ρ w, K ρ w → EW P n y Q ρ w) : EW P n (.seq x y) Q ρ w := by
  refine aF (hx.mono fun e ρ w q => ?_)
  cases e with
  | normal => exact hy ρ w q
  | _ => exact q
section
variable {P : Program} {ρ : Env} {w : World}
theorem fO {T : TypeId} {sizes : List Nat} {ps : List (Nat × Operand)} {vs : List Value} {l : List Value} (cls : List (List Value)) (hS : structL P T = some sizes) (hv : evL ρ (ps.map (·.2)) = some vs) (hps : ps.map (·.1) = List.range cls.length)
    (hc : vs.map (·.cells) = cls.map (·.toArray)) (hl : cls.map List.length = sizes) (hf : cls.flatten = l) : PO P (.build T ps.toArray) ρ w (.agg l.toArray) := by
  subst hf
  exact po_buildF hS hv hps hc hl
theorem po_slice_arrA {T e : TypeId} {x : Operand} {n b p k : Nat} (hT : arrSize P T = some (n, e, k)) (h0 : 0 < n) (hx : ev ρ x = some (.pointer (some ⟨b, p, none⟩))) :
    PO P (.slice T x none none none) ρ w (.slice (some ⟨b, p, none⟩) n n) := by
  have h := po_slice_arr (w := w) hT hx (.no _) (.no _) (by omega) (by omega)
  rw [if_neg (by omega)] at h
  simpa using h
end
theorem flat_rep' (n : Nat) {v : Value} (h : v.oneCell' = true) : Flat (rep n v) := flat_rep n h
theorem aG {l : List Value} (h : l.all Value.oneCell' = true) : Flat l := fun v hv => List.all_eq_true.1 h v hv
def zeroOf (P : Program) (T : TypeId) : Option Value :=
  match P.info? T with
  | some i => i.zero
  | none => none
theorem cC {P : Program} {ρ : Env} {w : World} {x : Operand} {T A B e : TypeId} {v z : Value} (hA : P.underlying A = some (.pointer e)) (hz : zeroOf P A = some z) (hx : ev ρ x = some (.iface B v)) (hne : B ≠ A) :
    PO P (.typeAssert x T A true) ρ w (.tuple #[z, .bool false]) := by
  unfold zeroOf at hz
  split at hz
  · rename_i i hi
    exact po_typeAssert_no hA (fun _ h => by cases h) hi hz hx hne
  · cases hz
theorem po_ta_yes {P : Program} {ρ : Env} {w : World} {x : Operand} {T A e : TypeId} {v : Value} (hA : P.underlying A = some (.pointer e)) (hx : ev ρ x = some (.iface A v)) : PO P (.typeAssert x T A true) ρ w (.tuple #[v, .bool true]) :=
  po_typeAssert_yes hA (fun _ h => by cases h) hx
end Go.Proofs.YtgpfjlfkaoffeaaGreatDoor
namespace Go.Proofs.YtgpfjlfkaoffeaaGreatDoor
open Go
def fR (l : List UInt8) : Value := .string (fB l)
def fF (V : Vw) (v : Value) (l : List (List UInt8)) : Prop := SlV V 1 v l.length (l.map fR)
def RPair (V : Vw) (p : fU) (c : List Value) : Prop := ∃ v, c = [.int .u16 p.key, v] ∧ RB V v p.data
def eV (V : Vw) (v : Value) (l : List fU) : Prop := ∃ xs, SlV V 2 v l.length xs ∧ Rows 2 (RPair V) l xs
def askC (a : PAsk) : List Value := [fR a.name, .int .u16 a.type, .int .u16 a.cls]
def RAsks (V : Vw) (v : Value) (l : List PAsk) : Prop := ∃ xs, SlV V 3 v l.length xs ∧ Rows 3 (fun a c => c = askC a) l xs
def eY (r : fY) (vd vt vp : Value) : List Value :=
  [fR r.name, .int .u16 r.type, .int .u16 r.cls, .int .u32 r.ttl, .int .u16 r.length, .int .i64 r.kind, vd, fR r.host, fR r.box, .int .u32 r.n1, .int .u32 r.n2, .int .u32 r.n3, .int .u32 r.n4, .int .u32 r.n5, vt, vp]
def RRec (V : Vw) (r : fY) (c : List Value) : Prop := ∃ vd vt vp, c = eY r vd vt vp ∧ RB V vd r.data ∧ fF V vt r.texts ∧ eV V vp r.pairs
def RRecs (V : Vw) (v : Value) (l : List fY) : Prop := ∃ xs, SlV V 16 v l.length xs ∧ Rows 16 (RRec V) l xs
def headC (id bits : Nat) : List Value :=
  [.int .u16 id, .bool (bits.testBit 15), .int .u16 (bits / 2048 % 16 : Nat), .bool (bits.testBit 10), .bool (bits.testBit 9), .bool (bits.testBit 8), .bool (bits.testBit 7), .bool (bits.testBit 5), .bool (bits.testBit 4), .int .u16 (bits % 16 : Nat)]
def RSeen (V : Vw) (s : PSeen) (c : List Value) : Prop := ∃ va vr, c = .int .i64 s.fault :: (headC s.id s.bits ++ [va, vr]) ∧ RAsks V va s.asks ∧ RRecs V vr s.recs
def RSeens (V : Vw) (v : Value) (l : List PSeen) : Prop := ∃ xs, SlV V 13 v l.length xs ∧ Rows 13 (RSeen V) l xs
section
variable {V V' : Vw} (hV : V.le V')
include hV
theorem fF.mono {v : Value} {l : List (List UInt8)} (h : fF V v l) : fF V' v l := SlV.mono hV h
theorem RPair.mono {p : fU} {c : List Value} (h : RPair V p c) : RPair V' p c := by
  obtain ⟨v, h1, h2⟩ := h
  exact ⟨v, h1, h2.mono hV⟩
theorem eV.mono {v : Value} {l : List fU} (h : eV V v l) : eV V' v l := by
  obtain ⟨xs, h1, h2⟩ := h
  exact ⟨xs, h1.mono hV, h2.mono fun _ _ h => h.mono hV⟩
theorem RAsks.mono {v : Value} {l : List PAsk} (h : RAsks V v l) : RAsks V' v l := by
  obtain ⟨xs, h1, h2⟩ := h
  exact ⟨xs, h1.mono hV, h2⟩
theorem RRec.mono {r : fY} {c : List Value} (h : RRec V r c) : RRec V' r c := by
  obtain ⟨vd, vt, vp, h1, h2, h3, h4⟩ := h
  exact ⟨vd, vt, vp, h1, h2.mono hV, h3.mono hV, h4.mono hV⟩
theorem RRecs.mono {v : Value} {l : List fY} (h : RRecs V v l) : RRecs V' v l := by
  obtain ⟨xs, h1, h2⟩ := h
  exact ⟨xs, h1.mono hV, h2.mono fun _ _ h => h.mono hV⟩
theorem RSeen.mono {s : PSeen} {c : List Value} (h : RSeen V s c) : RSeen V' s c := by
  obtain ⟨va, vr, h1, h2, h3⟩ := h
  exact ⟨va, vr, h1, h2.mono hV, h3.mono hV⟩
theorem RSeens.mono {v : Value} {l : List PSeen} (h : RSeens V v l) : RSeens V' v l := by
  obtain ⟨xs, h1, h2⟩ := h
  exact ⟨xs, h1.mono hV, h2.mono fun _ _ h => h.mono hV⟩
end
theorem fF.nil (V : Vw) : fF V (.slice none 0 0) [] := SlV.nil V 1
theorem eV.nil (V : Vw) : eV V (.slice none 0 0) [] := ⟨[], SlV.nil V 2, rfl⟩
theorem RAsks.nil (V : Vw) : RAsks V (.slice none 0 0) [] := ⟨[], SlV.nil V 3, rfl⟩
theorem RRecs.nil (V : Vw) : RRecs V (.slice none 0 0) [] := ⟨[], SlV.nil V 16, rfl⟩
theorem SlV.oneCell {V : Vw} {size n : Nat} {v : Value} {xs : List Value} (h : SlV V size v n xs) : v.oneCell' = true := by
  obtain ⟨a, cap, rfl, _⟩ := h.form; rfl
theorem fF.oneCell {V : Vw} {v : Value} {l : List (List UInt8)} (h : fF V v l) : v.oneCell' = true := SlV.oneCell h
theorem eV.oneCell {V : Vw} {v : Value} {l : List fU} (h : eV V v l) : v.oneCell' = true := by
  obtain ⟨xs, h1, _⟩ := h; exact h1.oneCell
theorem RAsks.oneCell {V : Vw} {v : Value} {l : List PAsk} (h : RAsks V v l) : v.oneCell' = true := by
  obtain ⟨xs, h1, _⟩ := h; exact h1.oneCell
theorem RRecs.oneCell {V : Vw} {v : Value} {l : List fY} (h : RRecs V v l) : v.oneCell' = true := by
  obtain ⟨xs, h1, _⟩ := h; exact h1.oneCell
theorem RPair.flat {V : Vw} {p : fU} {c : List Value} (h : RPair V p c) : Flat c ∧ c.length = 2 := by
  obtain ⟨v, rfl, h2⟩ := h
  exact ⟨bX rfl (bX h2.oneCell eQ), rfl⟩
theorem RRec.flat {V : Vw} {r : fY} {c : List Value} (h : RRec V r c) : Flat c ∧ c.length = 16 := by
  obtain ⟨vd, vt, vp, rfl, h2, h3, h4⟩ := h
  refine ⟨?_, rfl⟩
  unfold eY
  exact bX rfl (bX rfl (bX rfl (bX rfl (bX rfl (bX rfl (bX h2.oneCell (bX rfl (bX rfl (bX rfl (bX rfl (bX rfl (bX rfl (bX rfl (bX h3.oneCell (bX h4.oneCell eQ)))))))))))))))
theorem flat_headC (id bits : Nat) : Flat (headC id bits) := by
  unfold headC
  exact bX rfl (bX rfl (bX rfl (bX rfl (bX rfl (bX rfl (bX rfl (bX rfl (bX rfl (bX rfl eQ)))))))))
theorem RSeen.flat {V : Vw} {s : PSeen} {c : List Value} (h : RSeen V s c) : Flat c ∧ c.length = 13 := by
  obtain ⟨va, vr, rfl, h2, h3⟩ := h
  exact ⟨bX rfl (fD (flat_headC _ _) (bX h2.oneCell (bX h3.oneCell eQ))), rfl⟩
theorem askC_flat (a : PAsk) : Flat (askC a) := bX rfl (bX rfl (bX rfl eQ))
end Go.Proofs.YtgpfjlfkaoffeaaGreatDoor
namespace Go.Proofs.YtgpfjlfkaoffeaaGreatDoor
open Go
theorem St.perm {w0 : Base} {w : World} {L M : List (Nat × Obj)} (h : St w0 w L) (hp : List.Perm L M) : St w0 w M :=
  ⟨h.os, h.tape, h.output, h.size, fun x hx => h.own x (hp.mem_iff.2 hx), fun x hx => h.unf x (hp.mem_iff.2 hx), (hp.map _).nodup_iff.1 h.nodup, fun i hi hn => h.old i hi fun x hx => hn x (hp.mem_iff.1 hx), h.fro,
    fun b o hb => ⟨(h.keep b o hb).1, fun x hx => (h.keep b o hb).2 x (hp.mem_iff.2 hx)⟩, h.grow0, h.grow⟩
def SlX (E : TypeId) (size : Nat) (n0 : Nat) (X : List (Nat × Obj)) (v : Value) (n : Nat) (xs : List Value) : Prop :=
  xs.length = n * size ∧ ((v = .slice none 0 0 ∧ n = 0 ∧ X = []) ∨ ∃ g cap sp, v = .slice (some ⟨g, 0, none⟩) n cap ∧ (xs ++ sp).length = cap * size ∧ n ≤ cap ∧ cap ≤ maxLen ∧ n0 ≤ g ∧ X = [(g, .cells (xs ++ sp).toArray E (0, 0))])
section
variable {E : TypeId} {size m : Nat} {v : Value} {xs : List Value} {w0 : Base} {w : World} {L X : List (Nat × Obj)}
theorem Sl.open (h : Sl E size w0 w L v m xs) : ∃ X, SlX E size w0.heap.size X v m xs ∧ St w0 w (L ++ X) := by
  rcases h.2 with ⟨hv, hn, hs⟩ | ⟨g, cap, sp, hv, hl, hnc, hcm, hg, hs⟩
  · exact ⟨[], ⟨h.1, .inl ⟨hv, hn, rfl⟩⟩, by simpa using hs⟩
  · exact ⟨_, ⟨h.1, .inr ⟨g, cap, sp, hv, hl, hnc, hcm, hg, rfl⟩⟩, hs.perm (by
      have := List.perm_append_comm (l₁ := [(g, Obj.cells (xs ++ sp).toArray E (0, 0))]) (l₂ := L)
      simpa using this)⟩
theorem SlX.close {n0 : Nat} (h : SlX E size n0 X v m xs) (hs : St w0 w (L ++ X)) (hn : n0 = w0.heap.size := by rfl) : Sl E size w0 w L v m xs := by
  subst hn
  refine ⟨h.1, ?_⟩
  rcases h.2 with ⟨hv, hn, rfl⟩ | ⟨g, cap, sp, hv, hl, hnc, hcm, hg, rfl⟩
  · exact .inl ⟨hv, hn, by simpa using hs⟩
  · exact .inr ⟨g, cap, sp, hv, hl, hnc, hcm, hg, hs.perm (by
      have := List.perm_append_comm (l₁ := [(g, Obj.cells (xs ++ sp).toArray E (0, 0))]) (l₂ := L)
      simpa using this.symm)⟩
theorem Sl.isIn (h : Sl E size w0 w L v m xs) : w0.V.In w := h.st.isIn
theorem Sl.oneCell (h : Sl E size w0 w L v m xs) : v.oneCell' = true := by
  obtain ⟨a, c, rfl⟩ := h.size; rfl
end
section
variable {P : Program} {n : Nat} {ρ : Env} {w0 : Base} {w w1 : World} {L : List (Nat × Obj)} {K : Env → World → Prop} {d d2 : Tmp} {ty ty2 : TypeId} {pos pos2 : String} {af af2 : Array Edge} {ops : Array Oper} {rest : List Oper}
variable {E : TypeId} {size m : Nat} {v : Value} {xs : List Value}
theorem l_app1 {t e : TypeId} {bytes : Nat} {zs cl : List Value} {s x : Operand} {xv : Value} (ht : eltOk P t = some (e, size, bytes, zs)) (h : Sl e size w0 w L v m xs) (hsv : ∀ u, ev (eH ρ d u) s = some v) (hx : ev ρ x = some xv)
    (hc : xv.cells = cl.toArray) (hl : cl.length = size) (hf : Flat cl) (hsz : size ≤ 16777216) (hlen : m + 1 ≤ 4611686018427387904) (hbytes : (m + 1) * bytes ≤ 140737488355328) (hd : Nat.blt d n = true) (hd2 : Nat.blt d2 n = true)
    (hk : ∀ b v' w', Sl e size w0 w' L v' (m + 1) (xs ++ cl) → LW P n ops rest K (eH (eH ρ d (.slice (some ⟨b, 0, none⟩) 1 1)) d2 v') w') :
    LW P n ops (⟨some d, .buildSlice t 1 #[(0, x)], ty, pos, af, none⟩ :: ⟨some d2, .call { callee := .builtin .append, args := #[s, .tmp d], argTypes := #[t, t] }, ty2, pos2, af2, none⟩ :: rest) K ρ w := by
  have hE := eltOk_spec ht
  obtain ⟨X, hX, hs⟩ := h.open
  have hv1 : evL ρ ([(0, x)].map (·.2)) = some [xv] := by simp [evL, hx]
  refine aJ (o_bslice (vls := [cl]) (len := 1) ht hs hv1 rfl rfl (by simp [hc]) (by simp [hl]) (by omega) (by omega) hd (fun b w1 hb _ hs1 => ?_))
  have hs2 : Sl e size w0 w1 ((b, .cells cl.toArray e (0, 0)) :: L) v m xs := by
    refine SlX.close (L := (b, .cells cl.toArray e (0, 0)) :: L) hX ?_
    simpa using hs1
  refine aJ (fA (k := 1) (news := cl) ht (.inr ⟨_, hE.under⟩) hs2 (hsv _) (by simp [ev, upd_same]; rfl) (src_own (k := 0) hs2.st rfl (by omega)) hf hlen hbytes hd2 (fun v' w' h' => ?_))
  exact hk b v' w' (h'.drop hb)
end
theorem RB.fst {P : Program} {V : Vw} {w : World} {v : Value} {l : List UInt8} {k : Nat} (h : RB V v l) (hV : V.In w) (hk : k ≤ l.length) : Fst P w 1 v k ((l.take k).map eA) := by
  rcases h.2 with ⟨h1, h2⟩ | ⟨b, p, c, h1, h2, h3⟩
  · have hl : l = [] := List.eq_nil_of_length_eq_zero h2
    subst hl h1
    have hk0 : k = 0 := by simpa using hk
    subst hk0
    exact (src_nil (P := P) (w := w) (size := 1) (c := 0)).fst
  · subst h1
    refine fst_slice (by simp; omega) fun j u hu => ?_
    refine Vw.cell_in hV (h3 j u ?_)
    rw [List.map_take, List.getElem?_take] at hu
    split at hu
    · exact hu
    · cases hu
theorem seg_take {l : List UInt8} {i n k : Nat} (h : k ≤ n) : (seg l i n).take k = seg l i k := by
  unfold seg; rw [List.take_take, Nat.min_eq_left h]
theorem RB.of_block {V : Vw} {b cap : Nat} {l : List UInt8} {E : TypeId} {sp : List Value} (h : V b = some (.cells (l.map eA ++ sp).toArray E (0, 0))) (hc : l.length ≤ cap) : RB V (.slice (some ⟨b, 0, none⟩) l.length cap) l :=
  SlV.cells h (by simp) hc
theorem ofBytes_size (l : List UInt8) : (fB l).size = l.length := by simp [fB, ByteArray.size]
end Go.Proofs.YtgpfjlfkaoffeaaGreatDoor

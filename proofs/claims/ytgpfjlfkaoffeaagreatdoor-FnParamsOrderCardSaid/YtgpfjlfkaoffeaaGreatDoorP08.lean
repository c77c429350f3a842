/- The proof layer of this claim, ninth part: struct values put together. What values in memory stand for: texts, pairs, questions, records, what a step returns. The proof layer of this claim, tenth part: own slices beside other owned blocks, one element put behind. The proof layer of this claim, eleventh part: parts of slices with bounds of their own, places in rows; parameters counted first. -/
import Derived.Test.YtgpfjlfkaoffeaaGreatDoorP07
set_option linter.all false
namespace Go.Proofs.YtgpfjlfkaoffeaaGreatDoor
open Go
def fillL (place : Nat → Option (Nat × Nat)) : List Value → List (Nat × List Value) → Option (List Value)
  | cells, [] => some cells
  | cells, (i, vl) :: rest => match place i with
    | some (off, s) => if vl.length = s ∧ off + s ≤ cells.length then fillL place (cells.take off ++ vl ++ cells.drop (off + s)) rest else none
    | none => none
theorem fill_of_fillL {place : Nat → Option (Nat × Nat)} : ∀ (is : List Nat) (vs : List Value) (cls : List (List Value)) (cells l : List Value), vs.map (·.cells) = cls.map (·.toArray) →
    fillL place cells (is.zip cls) = some l → is.length = vs.length → Instr.fill place cells.toArray (is.zip vs) = some l.toArray
  | [], vs, cls, cells, l, hc, h, hl => by
    simp [fillL] at h
    subst h
    simp [Instr.fill]
  | i :: is, vs, cls, cells, l, hc, h, hl => by
    cases vs with
    | nil => simp at hl
    | cons v vs =>
      cases cls with
      | nil => simp at hc
      | cons c cls =>
        simp only [List.map_cons, List.cons.injEq] at hc
        simp only [List.zip_cons_cons, fillL] at h
        split at h
        · rename_i off s hp
          split at h
          · rename_i hh
            rw [List.zip_cons_cons, fill_step (vl := c) hp hc.1 hh.1 (by simpa using hh.2)]
            exact fill_of_fillL is vs cls _ l hc.2 h (by simpa using hl)
          · cases h
        · cases h
def placesOf (P : Program) (T : TypeId) : Option (List (Nat × Nat) × List Value) :=
  match P.info? T, P.underlying T with
  | some it, some (.struct fields) =>
    match it.zero, fields.toList.mapM (fun f => (P.info? f.type).map fun i => (f.offset, i.size)) with
    | some z, some places => some (places, z.cells.toList)
    | _, _ => none
  | _, _ => none
def builtL (P : Program) (T : TypeId) (parts : List (Nat × List Value)) : Option (List Value) :=
  match placesOf P T with
  | some (places, zs) => fillL (places.toArray[·]?) zs parts
  | none => none
theorem built_of_builtL {P : Program} {T : TypeId} {is : List Nat} {vs : List Value} {cls : List (List Value)} {l : List Value} (hc : vs.map (·.cells) = cls.map (·.toArray))
    (h : builtL P T (is.zip cls) = some l) (hl : is.length = vs.length) : P.built T (is.zip vs) = some l.toArray := by
  unfold builtL placesOf at h
  unfold Program.built
  cases hit : P.info? T with
  | none => simp [hit] at h
  | some it =>
    cases hu : P.underlying T with
    | none => simp [hit, hu] at h
    | some d =>
      cases d with
      | struct fields =>
        simp only [hit, hu] at h ⊢
        cases hz : it.zero with
        | none => simp [hz] at h
        | some z =>
          cases hp : fields.toList.mapM (fun f => (P.info? f.type).map fun i => (f.offset, i.size)) with
          | none => simp [hz, hp] at h
          | some places =>
            simp only [hz, hp] at h ⊢
            have := fill_of_fillL is vs cls _ l hc h hl
            simpa using this
      | _ => simp [hit, hu] at h
theorem cells_one {v : Value} (h : v.oneCell' = true) : v.cells = #[v] := by
  cases v <;> first | rfl | simp [Value.oneCell'] at h
section
variable {P : Program} {ρ : Env} {w : World}
theorem evL_len {ρ : Env} : ∀ {l : List Operand} {vs : List Value}, evL ρ l = some vs → l.length = vs.length
  | [], vs, h => by simp [evL] at h; subst h; rfl
  | x :: r, vs, h => by
    simp only [evL] at h
    split at h
    · rename_i v vs' hv hvs
      simp at h; subst h
      simp [evL_len hvs]
    · cases h
theorem po_buildL {T : TypeId} {ps : List (Nat × Operand)} {vs : List Value} {cls : List (List Value)} {l : List Value} (hv : evL ρ (ps.map (·.2)) = some vs) (hc : vs.map (·.cells) = cls.map (·.toArray))
    (h : builtL P T ((ps.map (·.1)).zip cls) = some l) : PO P (.build T ps.toArray) ρ w (.agg l.toArray) :=
  bM hv (built_of_builtL hc h (by have := evL_len hv; simpa using this))
theorem bL {T : TypeId} {ps : List (Nat × Operand)} {vs : List Value} {l : List Value} (hv : evL ρ (ps.map (·.2)) = some vs) (hone : (vs.all Value.oneCell') = true)
    (h : builtL P T ((ps.map (·.1)).zip (vs.map fun v => [v])) = some l) : PO P (.build T ps.toArray) ρ w (.agg l.toArray) := by
  refine po_buildL hv ?_ h
  rw [List.map_map]
  apply List.map_congr_left
  intro v hv'
  have := List.all_eq_true.1 hone v hv'
  simp [cells_one this]
def contig : Nat → List (Nat × Nat) → Option (List Nat)
  | _, [] => some []
  | o, (a, s) :: r => if a = o then (contig (o + s) r).map fun l => s :: l else none
def structL (P : Program) (T : TypeId) : Option (List Nat) :=
  match placesOf P T with
  | some (places, zs) => match contig 0 places with
    | some l => if zs.length = l.sum then some l else none
    | none => none
  | none => none
theorem fillL_full : ∀ (o : Nat) (sizes : List Nat) (places : List (Nat × Nat)) (cls : List (List Value)) (all : List (Nat × Nat)) (k : Nat) (pre post : List Value), contig o places = some sizes → cls.map List.length = sizes →
    pre.length = o → post.length = sizes.sum → all.drop k = places → fillL (all.toArray[·]?) (pre ++ post) ((List.range' k cls.length).zip cls) = some (pre ++ cls.flatten)
  | o, sizes, places, [], all, k, pre, post, hcon, hl, hpre, hpost, hall => by
    simp at hl
    subst hl
    simp at hpost
    subst hpost
    simp [fillL]
  | o, sizes, places, c :: cls, all, k, pre, post, hcon, hl, hpre, hpost, hall => by
    cases places with
    | nil => simp [contig] at hcon; subst hcon; simp at hl
    | cons p r =>
      obtain ⟨a, s⟩ := p
      simp only [contig] at hcon
      split at hcon
      · rename_i ha
        subst ha
        rw [Option.map_eq_some_iff] at hcon
        obtain ⟨l, hl2, rfl⟩ := hcon
        simp only [List.map_cons, List.cons.injEq] at hl
        have hk : all[k]? = some (a, s) := by
          have : (all.drop k)[0]? = some (a, s) := by rw [hall]; rfl
          simpa using this
        simp only [List.length_cons, List.range'_succ, List.zip_cons_cons, fillL, List.getElem?_toArray, hk]
        simp only [List.sum_cons] at hpost
        rw [if_pos ⟨hl.1, by simp; omega⟩]
        have e1 : (pre ++ post).take a = pre := by rw [← hpre]; exact List.take_left
        have e2 : (pre ++ post).drop (a + s) = post.drop s := by rw [← hpre, ← List.drop_drop, List.drop_left]
        rw [e1, e2]
        have := fillL_full (a + s) l r cls all (k + 1) (pre ++ c) (post.drop s) hl2 hl.2 (by simp; omega) (by simp; omega) (by
          rw [← List.drop_drop, hall]; rfl)
        simp only [List.getElem?_toArray] at this
        rw [this]
        simp
      · cases hcon
theorem builtL_full {T : TypeId} {sizes : List Nat} {cls : List (List Value)} (hS : structL P T = some sizes) (hl : cls.map List.length = sizes) : builtL P T ((List.range cls.length).zip cls) = some cls.flatten := by
  unfold structL at hS
  unfold builtL
  split at hS
  · rename_i places zs hp
    split at hS
    · rename_i l hc
      split at hS
      · rename_i hz
        simp at hS
        subst hS
        have := fillL_full 0 l places cls places 0 [] zs hc hl rfl hz rfl
        rw [List.range_eq_range']
        simpa using this
      · cases hS
    · cases hS
  · cases hS
theorem po_buildF {T : TypeId} {sizes : List Nat} {ps : List (Nat × Operand)} {vs : List Value} {cls : List (List Value)} (hS : structL P T = some sizes) (hv : evL ρ (ps.map (·.2)) = some vs) (hps : ps.map (·.1) = List.range cls.length)
    (hc : vs.map (·.cells) = cls.map (·.toArray)) (hl : cls.map List.length = sizes) : PO P (.build T ps.toArray) ρ w (.agg cls.flatten.toArray) :=
  po_buildL hv hc (by rw [hps]; exact builtL_full hS hl)
end
theorem set_behind {a b : List Value} {n i : Nat} (h : a.length = n) (v : Value) : (a ++ b).set (n + i) v = a ++ b.set i v := by
  subst h
  rw [List.set_append_right _ _ (by omega)]
  congr 2
  omega
theorem cT {P : Program} {T : TypeId} {w : World} {kk b p n i : Nat} {a l : List Value} {E : TypeId} {fz : Nat × Nat} {v : Value} (hk : kindOf P T = some (false, kk)) (hb : w.heap[b]? = some (.cells (a ++ l).toArray E fz)) (ha : a.length = n)
    (hv : lget l i = some v) (hp : p = n + i) : (loadVar T ⟨b, p, none⟩).run P w = .ok v w := by
  subst hp ha
  refine aQ hk hb ?_
  rw [lget_eq] at hv ⊢
  rw [List.getElem?_append_right (by omega)]
  simpa using hv
theorem dG {P : Program} {n : Nat} {x y : Code} {Q : QE} {ρ : Env} {w : World} (K : Env → World → Prop) (hx : EW P n x (thenQ K Q) ρ w) (hy : ∀ ρ w, K ρ w → EW P n y Q ρ w) : EW P n (.seq x y) Q ρ w := by
  refine aF (hx.mono fun e ρ w q => ?_)
  cases e with
  | normal => exact hy ρ w q
  | _ => exact q
section
variable {P : Program} {ρ : Env} {w : World}
theorem po_buildG {T : TypeId} {sizes : List Nat} {ps : List (Nat × Operand)} {vs : List Value} {l : List Value} (cls : List (List Value)) (hS : structL P T = some sizes) (hv : evL ρ (ps.map (·.2)) = some vs) (hps : ps.map (·.1) = List.range cls.length)
    (hc : vs.map (·.cells) = cls.map (·.toArray)) (hl : cls.map List.length = sizes) (hf : cls.flatten = l) : PO P (.build T ps.toArray) ρ w (.agg l.toArray) := by
  subst hf
  exact po_buildF hS hv hps hc hl
theorem po_slice_arrA {T e : TypeId} {x : Operand} {n b p k : Nat} (hT : arrSize P T = some (n, e, k)) (h0 : 0 < n) (hx : ev ρ x = some (.pointer (some ⟨b, p, none⟩))) :
    PO P (.slice T x none none none) ρ w (.slice (some ⟨b, p, none⟩) n n) := by
  have h := po_slice_arr (w := w) hT hx (.no _) (.no _) (by omega) (by omega)
  rw [if_neg (by omega)] at h
  simpa using h
end
theorem flat_rep' (n : Nat) {v : Value} (h : v.oneCell' = true) : Flat (rep n v) := flat_rep n h
theorem aG {l : List Value} (h : l.all Value.oneCell' = true) : Flat l := fun v hv => List.all_eq_true.1 h v hv
def zeroOf (P : Program) (T : TypeId) : Option Value :=
  match P.info? T with
  | some i => i.zero
  | none => none
theorem cC {P : Program} {ρ : Env} {w : World} {x : Operand} {T A B e : TypeId} {v z : Value} (hA : P.underlying A = some (.pointer e)) (hz : zeroOf P A = some z) (hx : ev ρ x = some (.iface B v)) (hne : B ≠ A) :
    PO P (.typeAssert x T A true) ρ w (.tuple #[z, .bool false]) := by
  unfold zeroOf at hz
  split at hz
  · rename_i i hi
    exact po_typeAssert_no hA (fun _ h => by cases h) hi hz hx hne
  · cases hz
theorem po_ta_yes {P : Program} {ρ : Env} {w : World} {x : Operand} {T A e : TypeId} {v : Value} (hA : P.underlying A = some (.pointer e)) (hx : ev ρ x = some (.iface A v)) : PO P (.typeAssert x T A true) ρ w (.tuple #[v, .bool true]) :=
  po_typeAssert_yes hA (fun _ h => by cases h) hx
end Go.Proofs.YtgpfjlfkaoffeaaGreatDoor
namespace Go.Proofs.YtgpfjlfkaoffeaaGreatDoor
open Go
def strV (l : List UInt8) : Value := .string (ofBytes l)
def RTexts (V : Vw) (v : Value) (l : List (List UInt8)) : Prop := SlV V 1 v l.length (l.map strV)
def RPair (V : Vw) (p : PPair) (c : List Value) : Prop := ∃ v, c = [.int .u16 p.key, v] ∧ RB V v p.data
def RPairs (V : Vw) (v : Value) (l : List PPair) : Prop := ∃ xs, SlV V 2 v l.length xs ∧ Rows 2 (RPair V) l xs
def askC (a : PAsk) : List Value := [strV a.name, .int .u16 a.type, .int .u16 a.cls]
def RAsks (V : Vw) (v : Value) (l : List PAsk) : Prop := ∃ xs, SlV V 3 v l.length xs ∧ Rows 3 (fun a c => c = askC a) l xs
def recC (r : PRec) (vd vt vp : Value) : List Value :=
  [strV r.name, .int .u16 r.type, .int .u16 r.cls, .int .u32 r.ttl, .int .u16 r.length, .int .i64 r.kind, vd, strV r.host, strV r.box, .int .u32 r.n1, .int .u32 r.n2, .int .u32 r.n3, .int .u32 r.n4, .int .u32 r.n5, vt, vp]
def RRec (V : Vw) (r : PRec) (c : List Value) : Prop := ∃ vd vt vp, c = recC r vd vt vp ∧ RB V vd r.data ∧ RTexts V vt r.texts ∧ RPairs V vp r.pairs
def RRecs (V : Vw) (v : Value) (l : List PRec) : Prop := ∃ xs, SlV V 16 v l.length xs ∧ Rows 16 (RRec V) l xs
def headC (id bits : Nat) : List Value :=
  [.int .u16 id, .bool (bits.testBit 15), .int .u16 (bits / 2048 % 16 : Nat), .bool (bits.testBit 10), .bool (bits.testBit 9), .bool (bits.testBit 8), .bool (bits.testBit 7), .bool (bits.testBit 5), .bool (bits.testBit 4), .int .u16 (bits % 16 : Nat)]
def RSeen (V : Vw) (s : PSeen) (c : List Value) : Prop := ∃ va vr, c = .int .i64 s.fault :: (headC s.id s.bits ++ [va, vr]) ∧ RAsks V va s.asks ∧ RRecs V vr s.recs
def RSeens (V : Vw) (v : Value) (l : List PSeen) : Prop := ∃ xs, SlV V 13 v l.length xs ∧ Rows 13 (RSeen V) l xs
section
variable {V V' : Vw} (hV : V.le V')
include hV
theorem RTexts.mono {v : Value} {l : List (List UInt8)} (h : RTexts V v l) : RTexts V' v l := SlV.mono hV h
theorem RPair.mono {p : PPair} {c : List Value} (h : RPair V p c) : RPair V' p c := by
  obtain ⟨v, h1, h2⟩ := h
  exact ⟨v, h1, h2.mono hV⟩
theorem RPairs.mono {v : Value} {l : List PPair} (h : RPairs V v l) : RPairs V' v l := by
  obtain ⟨xs, h1, h2⟩ := h
  exact ⟨xs, h1.mono hV, h2.mono fun _ _ h => h.mono hV⟩
theorem RAsks.mono {v : Value} {l : List PAsk} (h : RAsks V v l) : RAsks V' v l := by
  obtain ⟨xs, h1, h2⟩ := h
  exact ⟨xs, h1.mono hV, h2⟩
theorem RRec.mono {r : PRec} {c : List Value} (h : RRec V r c) : RRec V' r c := by
  obtain ⟨vd, vt, vp, h1, h2, h3, h4⟩ := h
  exact ⟨vd, vt, vp, h1, h2.mono hV, h3.mono hV, h4.mono hV⟩
theorem RRecs.mono {v : Value} {l : List PRec} (h : RRecs V v l) : RRecs V' v l := by
  obtain ⟨xs, h1, h2⟩ := h
  exact ⟨xs, h1.mono hV, h2.mono fun _ _ h => h.mono hV⟩
theorem RSeen.mono {s : PSeen} {c : List Value} (h : RSeen V s c) : RSeen V' s c := by
  obtain ⟨va, vr, h1, h2, h3⟩ := h
  exact ⟨va, vr, h1, h2.mono hV, h3.mono hV⟩
theorem RSeens.mono {v : Value} {l : List PSeen} (h : RSeens V v l) : RSeens V' v l := by
  obtain ⟨xs, h1, h2⟩ := h
  exact ⟨xs, h1.mono hV, h2.mono fun _ _ h => h.mono hV⟩
end
theorem RTexts.nil (V : Vw) : RTexts V (.slice none 0 0) [] := SlV.nil V 1
theorem RPairs.nil (V : Vw) : RPairs V (.slice none 0 0) [] := ⟨[], SlV.nil V 2, rfl⟩
theorem RAsks.nil (V : Vw) : RAsks V (.slice none 0 0) [] := ⟨[], SlV.nil V 3, rfl⟩
theorem RRecs.nil (V : Vw) : RRecs V (.slice none 0 0) [] := ⟨[], SlV.nil V 16, rfl⟩
theorem SlV.oneCell {V : Vw} {size n : Nat} {v : Value} {xs : List Value} (h : SlV V size v n xs) : v.oneCell' = true := by
  obtain ⟨a, cap, rfl, _⟩ := h.form; rfl
theorem RTexts.oneCell {V : Vw} {v : Value} {l : List (List UInt8)} (h : RTexts V v l) : v.oneCell' = true := SlV.oneCell h
theorem RPairs.oneCell {V : Vw} {v : Value} {l : List PPair} (h : RPairs V v l) : v.oneCell' = true := by
  obtain ⟨xs, h1, _⟩ := h; exact h1.oneCell
theorem RAsks.oneCell {V : Vw} {v : Value} {l : List PAsk} (h : RAsks V v l) : v.oneCell' = true := by
  obtain ⟨xs, h1, _⟩ := h; exact h1.oneCell
theorem RRecs.oneCell {V : Vw} {v : Value} {l : List PRec} (h : RRecs V v l) : v.oneCell' = true := by
  obtain ⟨xs, h1, _⟩ := h; exact h1.oneCell
theorem RPair.flat {V : Vw} {p : PPair} {c : List Value} (h : RPair V p c) : Flat c ∧ c.length = 2 := by
  obtain ⟨v, rfl, h2⟩ := h
  exact ⟨bX rfl (bX h2.oneCell flat_nil), rfl⟩
theorem RRec.flat {V : Vw} {r : PRec} {c : List Value} (h : RRec V r c) : Flat c ∧ c.length = 16 := by
  obtain ⟨vd, vt, vp, rfl, h2, h3, h4⟩ := h
  refine ⟨?_, rfl⟩
  unfold recC
  exact bX rfl (bX rfl (bX rfl (bX rfl (bX rfl (bX rfl (bX h2.oneCell (bX rfl (bX rfl (bX rfl (bX rfl (bX rfl (bX rfl (bX rfl (bX h3.oneCell (bX h4.oneCell flat_nil)))))))))))))))
theorem flat_headC (id bits : Nat) : Flat (headC id bits) := by
  unfold headC
  exact bX rfl (bX rfl (bX rfl (bX rfl (bX rfl (bX rfl (bX rfl (bX rfl (bX rfl (bX rfl flat_nil)))))))))
theorem RSeen.flat {V : Vw} {s : PSeen} {c : List Value} (h : RSeen V s c) : Flat c ∧ c.length = 13 := by
  obtain ⟨va, vr, rfl, h2, h3⟩ := h
  exact ⟨bX rfl (flat_app (flat_headC _ _) (bX h2.oneCell (bX h3.oneCell flat_nil))), rfl⟩
theorem askC_flat (a : PAsk) : Flat (askC a) := bX rfl (bX rfl (bX rfl flat_nil))
end Go.Proofs.YtgpfjlfkaoffeaaGreatDoor
namespace Go.Proofs.YtgpfjlfkaoffeaaGreatDoor
open Go
theorem St.perm {w0 : Base} {w : World} {L M : List (Nat × Obj)} (h : St w0 w L) (hp : List.Perm L M) : St w0 w M :=
  ⟨h.os, h.tape, h.output, h.size, fun x hx => h.own x (hp.mem_iff.2 hx), fun x hx => h.unf x (hp.mem_iff.2 hx), (hp.map _).nodup_iff.1 h.nodup, fun i hi hn => h.old i hi fun x hx => hn x (hp.mem_iff.1 hx), h.fro,
    fun b o hb => ⟨(h.keep b o hb).1, fun x hx => (h.keep b o hb).2 x (hp.mem_iff.2 hx)⟩, h.grow0, h.grow⟩
def SlX (E : TypeId) (size : Nat) (n0 : Nat) (X : List (Nat × Obj)) (v : Value) (n : Nat) (xs : List Value) : Prop :=
  xs.length = n * size ∧ ((v = .slice none 0 0 ∧ n = 0 ∧ X = []) ∨ ∃ g cap sp, v = .slice (some ⟨g, 0, none⟩) n cap ∧ (xs ++ sp).length = cap * size ∧ n ≤ cap ∧ cap ≤ maxLen ∧ n0 ≤ g ∧ X = [(g, .cells (xs ++ sp).toArray E (0, 0))])
section
variable {E : TypeId} {size m : Nat} {v : Value} {xs : List Value} {w0 : Base} {w : World} {L X : List (Nat × Obj)}
theorem Sl.open (h : Sl E size w0 w L v m xs) : ∃ X, SlX E size w0.heap.size X v m xs ∧ St w0 w (L ++ X) := by
  rcases h.2 with ⟨hv, hn, hs⟩ | ⟨g, cap, sp, hv, hl, hnc, hcm, hg, hs⟩
  · exact ⟨[], ⟨h.1, .inl ⟨hv, hn, rfl⟩⟩, by simpa using hs⟩
  · exact ⟨_, ⟨h.1, .inr ⟨g, cap, sp, hv, hl, hnc, hcm, hg, rfl⟩⟩, hs.perm (by
      have := List.perm_append_comm (l₁ := [(g, Obj.cells (xs ++ sp).toArray E (0, 0))]) (l₂ := L)
      simpa using this)⟩
theorem SlX.close {n0 : Nat} (h : SlX E size n0 X v m xs) (hs : St w0 w (L ++ X)) (hn : n0 = w0.heap.size := by rfl) : Sl E size w0 w L v m xs := by
  subst hn
  refine ⟨h.1, ?_⟩
  rcases h.2 with ⟨hv, hn, rfl⟩ | ⟨g, cap, sp, hv, hl, hnc, hcm, hg, rfl⟩
  · exact .inl ⟨hv, hn, by simpa using hs⟩
  · exact .inr ⟨g, cap, sp, hv, hl, hnc, hcm, hg, hs.perm (by
      have := List.perm_append_comm (l₁ := [(g, Obj.cells (xs ++ sp).toArray E (0, 0))]) (l₂ := L)
      simpa using this.symm)⟩
theorem Sl.isIn (h : Sl E size w0 w L v m xs) : w0.V.In w := h.st.isIn
theorem Sl.oneCell (h : Sl E size w0 w L v m xs) : v.oneCell' = true := by
  obtain ⟨a, c, rfl⟩ := h.size; rfl
end
section
variable {P : Program} {n : Nat} {ρ : Env} {w0 : Base} {w w1 : World} {L : List (Nat × Obj)} {K : Env → World → Prop} {d d2 : Tmp} {ty ty2 : TypeId} {pos pos2 : String} {af af2 : Array Edge} {ops : Array Oper} {rest : List Oper}
variable {E : TypeId} {size m : Nat} {v : Value} {xs : List Value}
theorem l_app1 {t e : TypeId} {bytes : Nat} {zs cl : List Value} {s x : Operand} {xv : Value} (ht : eltOk P t = some (e, size, bytes, zs)) (h : Sl e size w0 w L v m xs) (hsv : ∀ u, ev (upd ρ d u) s = some v) (hx : ev ρ x = some xv)
    (hc : xv.cells = cl.toArray) (hl : cl.length = size) (hf : Flat cl) (hsz : size ≤ 16777216) (hlen : m + 1 ≤ 4611686018427387904) (hbytes : (m + 1) * bytes ≤ 140737488355328) (hd : Nat.blt d n = true) (hd2 : Nat.blt d2 n = true)
    (hk : ∀ b v' w', Sl e size w0 w' L v' (m + 1) (xs ++ cl) → LW P n ops rest K (upd (upd ρ d (.slice (some ⟨b, 0, none⟩) 1 1)) d2 v') w') :
    LW P n ops (⟨some d, .buildSlice t 1 #[(0, x)], ty, pos, af, none⟩ :: ⟨some d2, .call { callee := .builtin .append, args := #[s, .tmp d], argTypes := #[t, t] }, ty2, pos2, af2, none⟩ :: rest) K ρ w := by
  have hE := eltOk_spec ht
  obtain ⟨X, hX, hs⟩ := h.open
  have hv1 : evL ρ ([(0, x)].map (·.2)) = some [xv] := by simp [evL, hx]
  refine aJ (o_bslice (vls := [cl]) (len := 1) ht hs hv1 rfl rfl (by simp [hc]) (by simp [hl]) (by omega) (by omega) hd (fun b w1 hb _ hs1 => ?_))
  have hs2 : Sl e size w0 w1 ((b, .cells cl.toArray e (0, 0)) :: L) v m xs := by
    refine SlX.close (L := (b, .cells cl.toArray e (0, 0)) :: L) hX ?_
    simpa using hs1
  refine aJ (o_append (k := 1) (news := cl) ht (.inr ⟨_, hE.under⟩) hs2 (hsv _) (by simp [ev, upd_same]; rfl) (src_own (k := 0) hs2.st rfl (by omega)) hf hlen hbytes hd2 (fun v' w' h' => ?_))
  exact hk b v' w' (h'.drop hb)
end
theorem RB.fst {P : Program} {V : Vw} {w : World} {v : Value} {l : List UInt8} {k : Nat} (h : RB V v l) (hV : V.In w) (hk : k ≤ l.length) : Fst P w 1 v k ((l.take k).map byteVal) := by
  rcases h.2 with ⟨h1, h2⟩ | ⟨b, p, c, h1, h2, h3⟩
  · have hl : l = [] := List.eq_nil_of_length_eq_zero h2
    subst hl h1
    have hk0 : k = 0 := by simpa using hk
    subst hk0
    exact (src_nil (P := P) (w := w) (size := 1) (c := 0)).fst
  · subst h1
    refine fst_slice (by simp; omega) fun j u hu => ?_
    refine Vw.cell_in hV (h3 j u ?_)
    rw [List.map_take, List.getElem?_take] at hu
    split at hu
    · exact hu
    · cases hu
theorem seg_take {l : List UInt8} {i n k : Nat} (h : k ≤ n) : (seg l i n).take k = seg l i k := by
  unfold seg; rw [List.take_take, Nat.min_eq_left h]
theorem RB.of_block {V : Vw} {b cap : Nat} {l : List UInt8} {E : TypeId} {sp : List Value} (h : V b = some (.cells (l.map byteVal ++ sp).toArray E (0, 0))) (hc : l.length ≤ cap) : RB V (.slice (some ⟨b, 0, none⟩) l.length cap) l :=
  SlV.cells h (by simp) hc
theorem ofBytes_size (l : List UInt8) : (ofBytes l).size = l.length := by simp [ofBytes, ByteArray.size]
end Go.Proofs.YtgpfjlfkaoffeaaGreatDoor
namespace Go.Proofs.YtgpfjlfkaoffeaaGreatDoor
open Go
section
variable {P : Program} {ρ : Env} {w : World}
theorem sliceAddr0 (b p cap k : Nat) : sliceAddr (some ⟨b, p, none⟩) 0 cap k = some ⟨b, p, none⟩ := by
  unfold sliceAddr; split <;> simp [add_at]
theorem sliceAddr_at (b p l cap : Nat) : sliceAddr (some ⟨b, p, none⟩) l cap 1 = some ⟨b, if cap = l then p else p + l, none⟩ := by
  unfold sliceAddr; split <;> simp [add_at]
theorem po_head {T e : TypeId} {x xh : Operand} {k : IntKind} {b p len cap : Nat} {hi : Int} (m : Nat) (hT : elemSize P T = some (e, 1)) (hx : ev ρ x = some (.slice (some ⟨b, p, none⟩) len cap)) (hh : ev ρ xh = some (.int k hi)) (h1 : hi = m) (h2 : m ≤ cap) :
    PO P (.slice T x none (some xh) none) ρ w (.slice (some ⟨b, p, none⟩) m cap) := by
  subst h1
  have h := po_slice (w := w) hT hx (.no _) (.yes _ hh (by omega)) (by omega) (by omega)
  rw [sliceAddr0, Int.toNat_natCast] at h
  exact h
theorem po_head3 {T e : TypeId} {x xh xm : Operand} {k k' : IntKind} {b p len cap : Nat} {hi mx : Int} (m : Nat) (hT : elemSize P T = some (e, 1)) (hx : ev ρ x = some (.slice (some ⟨b, p, none⟩) len cap)) (hh : ev ρ xh = some (.int k hi)) (hm : ev ρ xm = some (.int k' mx))
    (h1 : hi = m) (h2 : mx = m) (h3 : m ≤ cap) : PO P (.slice T x none (some xh) (some xm)) ρ w (.slice (some ⟨b, p, none⟩) m m) := by
  subst h1 h2
  intro o e' ho he
  obtain ⟨hS, i, hi', _⟩ := elemSize_spec hT
  have b1 : ∀ c, (Instr.sliceBound (e' xm) cap c).run P w = .ok m w := fun c => by
    simp [Instr.sliceBound, he _ _ hm, asIntOf]; intro h; omega
  have b2 : ∀ c, (Instr.sliceBound (e' xh) m c).run P w = .ok m w := fun c => by
    simp [Instr.sliceBound, he _ _ hh, asIntOf]
  have hr : (Instr.sliceBounds true len cap none (some (e' xh)) (some (e' xm))).run P w = .ok (0, m, m) w := by
    simp [Instr.sliceBounds, b1, b2]
  simp [execOp, ho, he _ _ hx, Instr.sliceAt, Instr.slice, run_underlying hS, hr, sizeOf, typeInfo, hi', add_at]
theorem po_tail {T e : TypeId} {x xl : Operand} {k : IntKind} {b p len cap : Nat} {lo : Int} (l : Nat) (hT : elemSize P T = some (e, 1)) (hx : ev ρ x = some (.slice (some ⟨b, p, none⟩) len cap)) (hl : ev ρ xl = some (.int k lo))
    (h1 : lo = l) (h2 : l ≤ len) (hc : len ≤ cap) : PO P (.slice T x (some xl) none none) ρ w (.slice (some ⟨b, if cap = l then p else p + l, none⟩) (len - l) (cap - l)) := by
  have h := po_tailR (w := w) l hT hx hl h1 h2 hc
  rwa [sliceAddr_at] at h
theorem po_iaN {S e : TypeId} {x y : Operand} {k b p len cap : Nat} {i : Int} {kk : IntKind} (n q : Nat) (hS : elemSize P S = some (e, k)) (hx : ev ρ x = some (.slice (some ⟨b, p, none⟩) len cap)) (hy : ev ρ y = some (.int kk i))
    (hn : i = n) (hl : n < len) (hq : p + n * k = q) : PO P (.indexAddr S x y) ρ w (.pointer (some ⟨b, q, none⟩)) := by
  subst hn hq
  have h := po_ia (w := w) hS hx hy (by omega) (by omega)
  rw [Int.toNat_natCast] at h
  exact h
end
def par1 (b : List UInt8) (i e n tot : Nat) : Option (Nat × Nat) :=
  if _h : i < e then
    if i + 4 ≤ b.length ∧ ¬ (0 < n ∧ w16 b i = 0) ∧ i + 4 + w16 b (i + 2) ≤ e then par1 b (i + 4 + w16 b (i + 2)) e (n + 1) (tot + w16 b (i + 2))
    else none
  else if i = e then some (n, tot) else none
termination_by e - i
decreasing_by omega
theorem par1_none {b : List UInt8} {i e n tot : Nat} (h : par1 b i e n tot = none) : ∀ acc : List PPair, acc.length = n → parsS b i e acc = none := by
  fun_induction par1 b i e n tot with
  | case1 i n tot hi hc ih =>
    intro acc hacc
    rw [parsS, dif_pos hi]
    split
    · exact ih h _ (by simp [hacc])
    · rfl
  | case2 i n tot hi hc =>
    intro acc hacc
    rw [parsS, dif_pos hi]
    split
    · rename_i hc2
      refine parsS_over ?_
      rcases Nat.lt_or_ge e (i + 4 + w16 b (i + 2)) with h' | h'
      · exact h'
      · refine absurd ⟨hc2.1, ?_, h'⟩ hc
        rintro ⟨h0, hk⟩
        refine hc2.2.2 ⟨?_, hk⟩
        intro ha; subst ha; simp at hacc; omega
    · rfl
  | case3 _ _ _ => cases h
  | case4 i n tot hi hc =>
    intro acc _
    exact parsS_over (by omega)
theorem par1_some {b : List UInt8} {i e n tot n' t' : Nat} (h : par1 b i e n tot = some (n', t')) : n ≤ n' ∧ tot ≤ t' ∧ i ≤ e := by
  fun_induction par1 b i e n tot with
  | case1 i n tot hi hc ih => have := ih h; omega
  | case2 i n tot hi hc => cases h
  | case3 _ _ _ => cases h; omega
  | case4 i n tot hi hc => cases h
theorem par1_more {b : List UInt8} {i e n tot n' t' : Nat} (h : par1 b i e n tot = some (n', t')) (hn : n < n') :
    i < e ∧ i + 4 ≤ b.length ∧ ¬ (0 < n ∧ w16 b i = 0) ∧ i + 4 + w16 b (i + 2) ≤ e ∧ par1 b (i + 4 + w16 b (i + 2)) e (n + 1) (tot + w16 b (i + 2)) = some (n', t') := by
  rw [par1] at h
  split at h
  · rename_i hi
    split at h
    · rename_i hc
      exact ⟨hi, hc.1, hc.2.1, hc.2.2, h⟩
    · cases h
  · split at h
    · cases h; omega
    · cases h
theorem par1_end {b : List UInt8} {i e n tot t' : Nat} (h : par1 b i e n tot = some (n, t')) : i = e ∧ tot = t' := by
  rw [par1] at h
  split at h
  · split at h
    · have := (par1_some h).1; omega
    · cases h
  · split at h
    · cases h; exact ⟨by assumption, rfl⟩
    · cases h
theorem parsS_step {b : List UInt8} {i e : Nat} {acc : List PPair} (hi : i < e) (h4 : i + 4 ≤ b.length) (hk : ¬ (0 < acc.length ∧ w16 b i = 0)) (hf : i + 4 + w16 b (i + 2) ≤ b.length) :
    parsS b i e acc = parsS b (i + 4 + w16 b (i + 2)) e (acc ++ [⟨w16 b i, seg b (i + 4) (w16 b (i + 2))⟩]) := by
  conv => lhs; rw [parsS]
  rw [dif_pos hi, if_pos]
  refine ⟨h4, hf, ?_⟩
  rintro ⟨h0, h1⟩
  exact hk ⟨List.length_pos_iff.2 h0, h1⟩
theorem parsS_short {b : List UInt8} {i e : Nat} {acc : List PPair} (hi : i < e) (hf : b.length < i + 4 + w16 b (i + 2)) : parsS b i e acc = none := by
  rw [parsS, dif_pos hi, if_neg (by omega)]
theorem parsS_end {b : List UInt8} {e : Nat} {acc : List PPair} : parsS b e e acc = some acc := by rw [parsS, dif_neg (by omega), if_pos rfl]
theorem set2_take {l : List Value} {j : Nat} {a b : Value} (h : 2 * j + 2 ≤ l.length) : ((l.set (2 * j) a).set (2 * j + 1) b).take (2 * (j + 1)) = l.take (2 * j) ++ [a, b] := by
  apply List.ext_getElem?
  intro i
  simp only [List.getElem?_take, List.getElem?_set, List.length_set, List.getElem?_append, List.length_take]
  have hm : min (2 * j) l.length = 2 * j := by omega
  rw [hm]
  by_cases h1 : i < 2 * j
  · rw [if_pos (by omega), if_pos h1, if_neg (by omega), if_neg (by omega), if_pos h1]
  · rw [if_neg h1]
    by_cases h2 : i = 2 * j
    · subst h2
      rw [if_pos (by omega), if_neg (by omega), if_pos rfl, if_pos (by omega), Nat.sub_self]; rfl
    · by_cases h3 : i = 2 * j + 1
      · subst h3
        rw [if_pos (by omega), if_pos rfl, if_pos (by omega)]
        have : 2 * j + 1 - 2 * j = 1 := by omega
        rw [this]; rfl
      · rw [if_neg (by omega)]
        have : i - 2 * j = (i - 2 * j - 2) + 2 := by omega
        rw [this]; rfl
def PP (vb : Nat) (bytes : List UInt8) (p : PPair) (c : List Value) : Prop :=
  ∃ q, c = [.int .u16 p.key, .slice (some ⟨vb, q, none⟩) p.data.length p.data.length] ∧ (p.data = [] ∨ (q + p.data.length ≤ bytes.length ∧ seg bytes q p.data.length = p.data))
theorem PP.mono {vb : Nat} {bytes news : List UInt8} {p : PPair} {c : List Value} (h : PP vb bytes p c) : PP vb (bytes ++ news) p c := by
  obtain ⟨q, h1, h2⟩ := h
  refine ⟨q, h1, h2.imp id fun ⟨h3, h4⟩ => ⟨by simp; omega, ?_⟩⟩
  unfold seg at *
  rw [List.drop_append_of_le_length (by omega), List.take_append_of_le_length (by simp; omega)]
  exact h4
theorem PP.done {V : Vw} {vb : Nat} {bytes : List UInt8} {E : TypeId} {fz : Nat × Nat} {p : PPair} {c : List Value} (h : PP vb bytes p c) (hv : V vb = some (.cells (bytes.map byteVal).toArray E fz)) : RPair V p c := by
  obtain ⟨q, h1, h2⟩ := h
  refine ⟨_, h1, by simp, .inr ⟨vb, q, p.data.length, rfl, Nat.le_refl _, fun j u hu => ?_⟩⟩
  obtain ⟨hj, rfl⟩ := getElem_byte hu
  rcases h2 with h2 | ⟨h3, h4⟩
  · rw [h2] at hj; simp at hj
  · refine Vw.cell_of hv ?_
    rw [← h4, byteAt_seg hj]
    have hlt : q + j < bytes.length := by omega
    simp [byteVal, byteAt, List.getD, List.getElem?_eq_getElem hlt]
section
variable {P : Program} {n : Nat} {ρ : Env} {w0 : Base} {w : World} {L : List (Nat × Obj)} {K : Env → World → Prop} {ty : TypeId} {pos : String} {af : Array Edge} {g : Option (Nat × Bool)}
theorem o_storeHd {T : TypeId} {x y : Operand} {kk k b : Nat} {a r vs : List Value} {E : TypeId} {L' : List (Nat × Obj)} (hs : St w0 w L) (hT : kindOf P T = some (true, kk))
    (hx : ev ρ x = some (.pointer (some ⟨b, 0, none⟩))) (hy : ev ρ y = some (.agg vs.toArray)) (hk : lget L k = some (b, .cells (a ++ r).toArray E (0, 0))) (ha : a.length = kk) (hvs : vs.length = kk) (hf : Flat vs)
    (hL : lset L k (b, .cells (vs ++ r).toArray E (0, 0)) = some L') (hK : ∀ w', St w0 w' L' → K ρ w') : OW P n ⟨none, .store T x y, ty, pos, af, g⟩ K ρ w := by
  refine o_storeA (p := 0) hs hT hx hy hk hvs (by simp; omega) hf ?_ hK
  have : (a ++ r).take 0 ++ vs ++ (a ++ r).drop (0 + kk) = vs ++ r := by
    rw [List.take_zero, List.nil_append, Nat.zero_add, ← ha, List.drop_left]
  rw [this]; exact hL
theorem ld_hd {T : TypeId} {kk b : Nat} {a r : List Value} {E : TypeId} {fz : Nat × Nat} (hk : kindOf P T = some (true, kk)) (hb : w.heap[b]? = some (.cells (a ++ r).toArray E fz)) (ha : a.length = kk) :
    (loadVar T ⟨b, 0, none⟩).run P w = .ok (.agg a.toArray) w := by
  have h := ld_agg (p := 0) hk hb (by simp; omega)
  have : ((a ++ r).drop 0).take kk = a := by rw [List.drop_zero, ← ha, List.take_left]
  rw [this] at h
  exact h
end
theorem St.less {w0 w : World} {V0 V : Vw} {L : List (Nat × Obj)} (h : St ⟨w0, V0, V⟩ w L) : St ⟨w0, V0, V0⟩ w L :=
  ⟨h.os, h.tape, h.output, h.size, h.own, h.unf, h.nodup, h.old, h.fro, fun b o hb => h.keep b o (h.grow0 b o hb), fun _ _ hb => hb, fun _ _ hb => .inl hb⟩
end Go.Proofs.YtgpfjlfkaoffeaaGreatDoor

/- Closed facts of the program, and the door's own run. The reference's packing: rules for texts, whole numbers, stores beside an own slice, an own slice exchanged for another. The reference's packing: its ink in memory; numbers put. The reference's packing: names. -/
import Derived.Test.YtgpfjlfkaoffeaaGreatDoorR25
import Derived.Test.YtgpfjlfkaoffeaaGreatDoorCards
import Derived.Test.YtgpfjlfkaoffeaaGreatDoorTie
import Derived.Test.YtgpfjlfkaoffeaaGreatDoorChecked
import Derived.ProofKit
import Derived.LaidMore
import Derived.OpenShut
import Derived.Stop.Joined
import Derived.SevenTiedAt
import Derived.Test.YtgpfjlfkaoffeaaGreatDoorR18
import Derived.Test.YtgpfjlfkaoffeaaGreatDoorR24
import Derived.Maps.RangeRun
import Derived.Test.YtgpfjlfkaoffeaaGreatDoorR08
set_option linter.all false
namespace Go.Proofs.YtgpfjlfkaoffeaaGreatDoor
open Go Go.Proofs.YtgpfjlfkaoffeaaGreatDoor Go.ChangeShapes Go.WideShapes Go.ChangeAt Go.WideMaps Go.WideElems Go.RowKit
theorem own : ownKnob Tryz.prog.godebug = none := by kernel_rfl
theorem door_met (os : Os) (args : Array Value) : laidMetH Tryz.prog Rows.fnParamsOrderRow.laid ((World.doorLaid Tryz.prog 457 os).forCall (fun _ _ => 0) ⟨#[], args, []⟩).memory :=
  laidMetH_of_parts3 (fuel := 8) (laidMet_of_run' 8 (by kernel_rfl) (by kernel_rfl)) (by kernel_rfl) (by kernel_rfl)
theorem and2 {a b : Bool} (ha : a = true) (hb : b = true) : (a && b) = true := by rw [ha, hb]; rfl
theorem joined_of {P : Program} {f : FuncId} {fn : Func} {s : ChangeSpec} {c : OpenClaim}
    (h0 : (c.wf (OpenSpec.ofChange s)) = true)
    (h1 : (laidOutB P) = true)
    (h2 : (mapsRowed P) = true)
    (h3 : (fn.params.all (P.readableRec ·)) = true)
    (h4 : (namedTie P c.named s.vars) = true)
    (h5 : ((c.stops == [])) = true)
    (h6 : ((P.stops == [])) = true)
    (h7 : ((c.knobs == [])) = true)
    (h8 : ((P.stopKnobs == [])) = true)
    (h9 : ((c.inPlace == P.inPlace f)) = true)
    (h10 : ((c.unfollowed == P.unfollowed f)) = true)
    (h11 : ((c.recurses == P.recurses f)) = true)
    (h12 : ((c.named == P.varsNamed f)) = true)
    (h13 : ((c.maps == (fn.params.toList ++ s.plain.varTypes P).any (P.mapsRec ·))) = true)
    (h14 : ((c.ifaces == (fn.params.toList ++ s.plain.varTypes P).any (P.ifacesRec ·))) = true)
    (h15 : ((c.mapsOut == P.mapsAmong fn.resultTypes.toList)) = true)
    (h16 : ((c.loops == (fn.params.toList ++ s.plain.varTypes P).any (P.loopsFrom ·))) = true)
    (h17 : ((c.wideKeys == (fn.params.toList ++ s.plain.varTypes P ++ fn.resultTypes.toList).any (P.wideKeysFrom ·))) = true)
    (h18 : (s.vars.all (P.varReadable ·)) = true)
    (h19 : (fn.resultTypes.all (fun t => P.readableRec t && decide (t < P.types.size))) = true)
    (h20 : ((c.ifacesOut == fn.resultTypes.toList.any (P.ifacesRec ·))) = true)
    (h21 : ((c.loopsOut == fn.resultTypes.toList.any (P.loopsFrom ·))) = true)
    (h22 : ((c.plainKeys == P.plainKeys)) = true)
    (h23 : (c.shortTexts.isNone) = true)
    (h24 : (P.stopsHeard) = true)
    (h25 : (P.mayEnter) = true)
    (h26 : ((c.lifted == P.liftsFinal)) = true)
    (h27 : ((P.make == some c.make)) = true)
    (h28 : ((c.kinds == (if c.domain.isEmpty then [] else fn.params.toList.map fun t => match P.underlying t with | some (.int k) => some k | _ => none))) = true)
    (h29 : ((c.pinned == c.pinnedBy)) = true)
    (h30 : ((c.veiled == (fn.params.toList ++ s.plain.varTypes P ++ fn.resultTypes.toList).any (P.veiledRec ·))) = true)
    (h31 : (c.veiledFits P fn.params.toList (fn.params.toList ++ s.plain.varTypes P ++ fn.resultTypes.toList)) = true) : joinedFacts P f fn s c = true := by
  unfold joinedFacts
  exact and2 (and2 (and2 (and2 (and2 (and2 (and2 (and2 (and2 (and2 (and2 (and2 (and2 (and2 (and2 (and2 (and2 (and2 (and2 (and2 (and2 (and2 (and2 (and2 (and2 (and2 (and2 (and2 (and2 (and2 (and2 (h0) h1) h2) h3) h4) h5) h6) h7) h8) h9) h10) h11) h12) h13) h14) h15) h16) h17) h18) h19) h20) h21) h22) h23) h24) h25) h26) h27) h28) h29) h30) h31
theorem swap2 {α : Type} [BEq α] {a b c : α} (h : a = b) (hb : (b == c) = true) : (a == c) = true := by rw [h]; exact hb
end Go.Proofs.YtgpfjlfkaoffeaaGreatDoor
namespace Go.Proofs.YtgpfjlfkaoffeaaGreatDoor
open Go
section
variable {P : Program} {n : Nat} {ρ : Env} {w0 : Base} {w : World} {L : List (Nat × Obj)} {K : Env → World → Prop} {d : Tmp} {ty : TypeId} {pos : String} {af : Array Edge} {g : Option (Nat × Bool)}
variable {E : TypeId} {size m : Nat} {sv : Value} {xs : List Value}
theorem po_lenS {T : TypeId} {x : Operand} {s : List UInt8} (hT : P.underlying T = some .string) (hx : ev ρ x = some (fR s)) :
    PO P (.call { callee := .builtin .len, args := #[x], argTypes := #[T] }) ρ w (.int .i64 (s.length : Nat)) := by
  have q := po_len_str (P := P) (w := w) hT hx
  rwa [ofBytes_size] at q
theorem po_eqlS {T T' : TypeId} {x y : Operand} {a b : List UInt8} (hx : ev ρ x = some (fR a)) (hy : ev ρ y = some (fR b)) : PO P (.binOp .eql T x y T') ρ w (.bool (decide (a = b))) := by
  have q := po_eql_str (P := P) (w := w) (T := T) (T' := T') hx hy
  have e : decide (fB a = fB b) = decide (a = b) := by
    by_cases h : a = b
    · subst h; simp
    · rw [decide_eq_false h, decide_eq_false fun e => h (strV_inj e)]
  rwa [e] at q
theorem po_neqS {T T' : TypeId} {x y : Operand} {a b : List UInt8} (hx : ev ρ x = some (fR a)) (hy : ev ρ y = some (fR b)) : PO P (.binOp .neq T x y T') ρ w (.bool (decide (a ≠ b))) := by
  have q := po_neq_str (P := P) (w := w) (T := T) (T' := T') hx hy
  have e : decide (fB a ≠ fB b) = decide (a ≠ b) := by
    by_cases h : a = b
    · subst h; simp
    · rw [decide_eq_true (show a ≠ b from h), decide_eq_true (show fB a ≠ fB b from fun e => h (strV_inj e))]
  rwa [e] at q
theorem po_eqlSF {T T' : TypeId} {x y : Operand} {a b : List UInt8} (hx : ev ρ x = some (fR a)) (hy : ev ρ y = some (fR b)) (h : a ≠ b) : PO P (.binOp .eql T x y T') ρ w (.bool false) := by
  have q := po_eqlS (P := P) (w := w) (T := T) (T' := T') hx hy
  rwa [decide_eq_false h] at q
theorem po_eqlST {T T' : TypeId} {x y : Operand} {a b : List UInt8} (hx : ev ρ x = some (fR a)) (hy : ev ρ y = some (fR b)) (h : a = b) : PO P (.binOp .eql T x y T') ρ w (.bool true) := by
  have q := po_eqlS (P := P) (w := w) (T := T) (T' := T') hx hy
  rwa [decide_eq_true h] at q
theorem po_indexS {T : TypeId} {x y : Operand} {s : List UInt8} {i : Int} {k : IntKind} (j : Nat) (hT : P.underlying T = some .string) (hx : ev ρ x = some (fR s)) (hy : ev ρ y = some (.int k i)) (hi : i = j) (hj : j < s.length) :
    PO P (.index T x y) ρ w (.int .u8 (eB s j)) := by
  subst hi
  have q := po_index_str (P := P) (w := w) (T := T) (b := s[j]) hT hx hy (by omega) (by
    rw [Int.toNat_natCast]
    show (fB s).data[j]? = _
    simp [fB, hj])
  have e : (eB s j : Nat) = (s[j]).toNat := by simp [eB, List.getD_eq_getElem?_getD, List.getElem?_eq_getElem hj]
  rw [e]; exact q
theorem po_headS {T : TypeId} {x xh : Operand} {s : List UInt8} {k : IntKind} {hi : Int} (i : Nat) (hT : P.underlying T = some .string) (hx : ev ρ x = some (fR s)) (hh : ev ρ xh = some (.int k hi)) (e1 : hi = i) (h : i ≤ s.length) :
    PO P (.slice T x none (some xh) none) ρ w (fR (s.take i)) := by
  subst e1
  have hsz : (fB s).size = s.length := ofBytes_size s
  have q := po_slice_str (w := w) hT hx (.no _) (.yes _ hh (by omega)) (Nat.zero_le _) (by simp [hsz]; omega)
  have e : (fB s).extract 0 (Int.toNat (i : Int)) = fB (s.take i) := by
    apply ByteArray.ext
    rw [ByteArray.data_extract, Int.toNat_natCast]
    apply Array.toList_inj.1
    simp [fB]
  rw [e] at q
  exact q
theorem po_min {x y : Operand} {k k' : IntKind} {a b : Int} {c : Int} {ts : Array TypeId} (hx : ev ρ x = some (.int k a)) (hy : ev ρ y = some (.int k' b)) (hc : (if b < a then b else a) = c) :
    PO P (.call { callee := .builtin .min, args := #[x, y], argTypes := ts }) ρ w (.int k c) := by
  subst hc
  intro o e ho he
  simp [execOp, ho, resolve, he _ _ hx, he _ _ hy, invoke, builtin, Builtin.min_, Builtin.min2]
theorem src_strV {s : List UInt8} : Src P w 1 (fR s) s.length (s.map eA) := by
  have q := src_string (P := P) (w := w) (s := fB s)
  rw [ofBytes_size] at q
  exact q
theorem o_storeS {T E1 : TypeId} {x y : Operand} {kk b p : Nat} {l l' : List Value} {v : Value} (h : Sl E size w0 w ((b, .cells l.toArray E1 (0, 0)) :: L) sv m xs) (hT : eK P T = some (false, kk)) (h1 : kk = 1)
    (hx : ev ρ x = some (.pointer (some ⟨b, p, none⟩))) (hy : ev ρ y = some v) (hv : v.oneCell' = true) (hl : lset l p v = some l') (hK : ∀ w', Sl E size w0 w' ((b, .cells l'.toArray E1 (0, 0)) :: L) sv m xs → K ρ w') :
    OW P n ⟨none, .store T x y, ty, pos, af, g⟩ K ρ w := by
  obtain ⟨X, hX, hs⟩ := h.open
  exact aS (k := 0) (L' := (b, .cells l'.toArray E1 (0, 0)) :: (L ++ X)) hs hT h1 hx hy hv rfl hl rfl fun w' hs' => hK w' (hX.close hs')
end
section
variable {E E2 : TypeId} {size size2 m m2 : Nat} {v v2 : Value} {xs xs2 : List Value} {B : Base} {w : World} {L X2 X3 : List (Nat × Obj)} {a : Nat × Obj}
theorem SlX.form {n0 : Nat} {X : List (Nat × Obj)} (h : SlX E size n0 X v m xs) : ∃ a c, v = .slice a m c := by
  rcases h.2 with ⟨hv, hn, _⟩ | ⟨g, cap, sp, hv, _⟩
  · subst hn; exact ⟨none, 0, hv⟩
  · exact ⟨_, _, hv⟩
theorem SlX.rows {n0 : Nat} {X : List (Nat × Obj)} (h : SlX E size n0 X v m xs) (h0 : 0 < m) : ∃ g cap, v = .slice (some ⟨g, 0, none⟩) m cap ∧ ∀ (B : Base) (M : List (Nat × Obj)), (∀ x ∈ X, x ∈ M) → fG B M g 0 xs := by
  rcases h.2 with ⟨_, hn, _⟩ | ⟨g, cap, sp, hv, hl, _, _, _, rfl⟩
  · omega
  · refine ⟨g, cap, hv, fun B M hM => fG.own (l := xs ++ sp) (E := E) (fz := (0, 0)) (hM _ (List.mem_singleton.2 rfl)) fun j u hu => ?_⟩
    rw [Nat.zero_add, List.getElem?_append_left (List.getElem?_eq_some_iff.1 hu).1]; exact hu
theorem Sl.rot (h : Sl E size B w (a :: (L ++ (X2 ++ X3))) v m xs) (h2 : SlX E2 size2 B.heap.size X2 v2 m2 xs2) : ∃ X1, SlX E size B.heap.size X1 v m xs ∧ Sl E2 size2 B w (a :: (L ++ (X3 ++ X1))) v2 m2 xs2 := by
  obtain ⟨X1, hX, hs⟩ := h.open
  refine ⟨X1, hX, h2.close (hs.perm ?_)⟩
  simp only [List.cons_append, List.append_assoc]
  refine (List.Perm.append_left L ?_).cons a
  have := List.perm_append_comm (l₁ := X2) (l₂ := X3 ++ X1)
  simpa only [List.append_assoc] using this
end
end Go.Proofs.YtgpfjlfkaoffeaaGreatDoor
namespace Go.Proofs.YtgpfjlfkaoffeaaGreatDoor
open Go
theorem gB {n : Nat} : IntKind.u16.wrap ((n : Nat) : Int) = ((n % 65536 : Nat) : Int) := by
 have h1 : IntKind.u16.wrap (n : Int) = (n : Int) % 65536 := by simp [IntKind.wrap, IntKind.signed, IntKind.bits]
 rw [h1]; omega
structure InkOk (x : Ink) : Prop where
 pl : Pl x.tbl
 few : x.tbl.length ≤ x.out.length
theorem InkOk.put {x : Ink} (h : InkOk x) (b : List UInt8) : InkOk (x.put b) := ⟨h.pl, by have := h.few; simp only [Ink.put, List.length_append]; omega⟩
def nmR (t : List (List UInt8 × Nat)) : List Value := t.map fun e => fR e.1
def atR (t : List (List UInt8 × Nat)) : List Value := t.map fun e => .int .i64 e.2
def InkX (n0 : Nat) (X : List (Nat × Obj)) (vn va : Value) (t : List (List UInt8 × Nat)) : Prop :=
 ∃ Xn Xa, X = Xn ++ Xa ∧ SlX 9 1 n0 Xn vn t.length (nmR t) ∧ SlX 3 1 n0 Xa va t.length (atR t)
theorem i64sh8 {n : Nat} : (n : Int).fdiv (2 ^ (min (8 : Int).toNat IntKind.i64.bits)) = ((n / 256 : Nat) : Int) := by
 have e : IntKind.i64.bits = 64 := rfl
 rw [e, Int.fdiv_eq_ediv_of_nonneg _ (by exact_mod_cast Nat.zero_le _)]
 norm_cast
def InkY (n0 : Nat) (Y : List (Nat × Obj)) (wb : Nat) (x : Ink) : Prop :=
 ∃ vb vn va X Xb, Y = (wb, .cells [vb, vn, va].toArray 74 (0, 0)) :: (X ++ Xb) ∧ InkX n0 X vn va x.tbl ∧ SlX 5 1 n0 Xb vb x.out.length (x.out.map eA)
def fZ (B : Base) (w : World) (L : List (Nat × Obj)) (wb : Nat) (x : Ink) : Prop := InkOk x ∧ ∃ Y, InkY B.heap.size Y wb x ∧ St B w (L ++ Y)
theorem perm_ink {a : Nat × Obj} {L X Xb : List (Nat × Obj)} : List.Perm (L ++ (a :: (X ++ Xb))) ((a :: (L ++ X)) ++ Xb) := by
 have h := List.perm_middle (a := a) (l₁ := L) (l₂ := X ++ Xb)
 simpa only [List.cons_append, List.append_assoc] using h
section
variable {B : Base} {w : World} {L X : List (Nat × Obj)} {wb n n0 : Nat} {vb vn va : Value} {x : Ink} {out : List UInt8} {t : List (List UInt8 × Nat)}
theorem InkX.close (hX : InkX B.heap.size X vn va t) (hok : InkOk ⟨out, t⟩) (h : Sl 5 1 B w ((wb, .cells [vb, vn, va].toArray 74 (0, 0)) :: (L ++ X)) vb n (out.map eA)) : fZ B w L wb ⟨out, t⟩ := by
 have hn : n = out.length := by have := h.1; simp at this; omega
 subst hn
 obtain ⟨Xb, hXb, hs⟩ := h.open
 exact ⟨hok, _, ⟨vb, vn, va, X, Xb, rfl, hX, hXb⟩, hs.perm perm_ink.symm⟩
theorem fZ.sl (h : fZ B w L wb x) : InkOk x ∧ ∃ vb vn va X, InkX B.heap.size X vn va x.tbl ∧ Sl 5 1 B w ((wb, .cells [vb, vn, va].toArray 74 (0, 0)) :: (L ++ X)) vb x.out.length (x.out.map eA) := by
 obtain ⟨hok, _, ⟨vb, vn, va, X, Xb, rfl, hX, hXb⟩, hs⟩ := h
 exact ⟨hok, vb, vn, va, X, hX, hXb.close (hs.perm perm_ink)⟩
theorem fZ.get (h : fZ B w L wb x) {k b : Nat} {o : Obj} (hk : L[k]? = some (b, o)) : w.heap[b]? = some o := by
 obtain ⟨_, Y, _, hs⟩ := h
 exact hs.own _ (List.mem_append_left _ (List.mem_of_getElem? hk))
theorem fZ.isIn (h : fZ B w L wb x) : B.V.In w := by
 obtain ⟨_, Y, _, hs⟩ := h
 exact hs.isIn
theorem fZ.drop {b : Nat} {o : Obj} (h : fZ B w ((b, o) :: L) wb x) (hb : B.heap.size ≤ b) : fZ B w L wb x := by
 obtain ⟨hok, Y, hY, hs⟩ := h
 exact ⟨hok, Y, hY, hs.drop hb⟩
theorem fZ.st (h : fZ B w L wb x) : ∃ Y, InkY B.heap.size Y wb x ∧ St B w (L ++ Y) := h.2
theorem InkY.close {Y : List (Nat × Obj)} (h : InkY B.heap.size Y wb x) (hok : InkOk x) (hs : St B w (L ++ Y)) : fZ B w L wb x := ⟨hok, Y, h, hs⟩
theorem fZ.frame {w0 w1 : World} {V0 V V' : Vw} (h : fZ ⟨w0, V0, V⟩ w L wb x) (hc : St ⟨w, V, V'⟩ w1 []) : fZ ⟨w0, V0, V'⟩ w1 L wb x := by
 obtain ⟨hok, Y, hY, hs⟩ := h
 exact ⟨hok, Y, hY, hs.frame hc⟩
theorem InkX.names (hX : InkX n0 X vn va t) : ∃ a c, vn = .slice a t.length c := by
 obtain ⟨Xn, Xa, _, h1, _⟩ := hX
 exact h1.form
theorem InkX.rows (hX : InkX n0 X vn va t) (h0 : 0 < t.length) : ∃ g c g2 c2, vn = .slice (some ⟨g, 0, none⟩) t.length c ∧ va = .slice (some ⟨g2, 0, none⟩) t.length c2 ∧ ∀ (B : Base) (M : List (Nat × Obj)), (∀ x ∈ X, x ∈ M) → fG B M g 0 (nmR t) ∧ fG B M g2 0 (atR t) := by
 obtain ⟨Xn, Xa, rfl, h1, h2⟩ := hX
 obtain ⟨g, c, e1, r1⟩ := h1.rows h0
 obtain ⟨g2, c2, e2, r2⟩ := h2.rows h0
 exact ⟨g, c, g2, c2, e1, e2, fun B M hM => ⟨r1 B M fun x hx => hM x (List.mem_append_left _ hx), r2 B M fun x hx => hM x (List.mem_append_right _ hx)⟩⟩
theorem fZ.nil (hs : St B w (L ++ [(wb, .cells [Value.slice none 0 0, .slice none 0 0, .slice none 0 0].toArray 74 (0, 0))])) : fZ B w L wb {} :=
 ⟨⟨(fun _ h => by cases h), Nat.le_refl _⟩, _, ⟨_, _, _, [], [], rfl, ⟨[], [], rfl, ⟨rfl, .inl ⟨rfl, rfl, rfl⟩⟩, ⟨rfl, .inl ⟨rfl, rfl, rfl⟩⟩⟩, ⟨rfl, .inl ⟨rfl, rfl, rfl⟩⟩⟩, hs⟩
end
section
variable {V V0 : Vw} {w w00 : World} {L : List (Nat × Obj)} {wb : Nat} {x : Ink}
set_option maxHeartbeats 1000000 in
theorem n_put2 (hI : fZ ⟨w00, V0, V⟩ w L wb x) (hx : x.out.length ≤ 1099511627776) (n : Nat) :
  eC Tryz.prog 24 #[.pointer (some ⟨wb, 0, none⟩), .int .u16 n] w fun _ w' => fZ ⟨w00, V0, V⟩ w' L wb (x.put (be2 n)) := by
 obtain ⟨hok, vb, vn, va, X, hX, hsl⟩ := hI.sl
 refine aT [_, _] Tryz.func24 Tryz.ntmps24 Tryz.results24 rfl rfl (aB (dM rfl rfl (dM rfl rfl (lp (aN rfl) rfl (lp (aR fo_74_0 rfl) rfl (lp (aO rfl (aQ k_23 (hsl.st.get (k := 0) rfl) rfl)) rfl (dM rfl rfl (lp (po_shr (c := (n / 256 : Nat)) rfl rfl (by decide) (u16sh (k := 8) (n := n))) rfl (lp (bY Tryz.underlying22 Tryz.underlying5 rfl u8lo) rfl (dM rfl rfl (lp (bY Tryz.underlying22 Tryz.underlying5 rfl u8lo) rfl (l_appB (be2 n) el_23 hsl (fun _ => rfl) rfl rfl rfl (by decide) (by decide) (by omega) (by omega) rfl rfl (fun b14 v15 w hs => ?_)))))))))))))
 skip
 refine lp (aN rfl) rfl (lp (aR fo_74_0 rfl) rfl (aJ (o_storeS hs k_23 rfl rfl rfl hs.oneCell rfl (fun w hs => aH ⟨_, res0, ?_⟩))))
 exact hX.close (hok.put _) hs
set_option maxHeartbeats 1000000 in
theorem n_put4 (hI : fZ ⟨w00, V0, V⟩ w L wb x) (hx : x.out.length ≤ 1099511627776) (n : Nat) :
  eC Tryz.prog 51 #[.pointer (some ⟨wb, 0, none⟩), .int .u32 n] w fun _ w' => fZ ⟨w00, V0, V⟩ w' L wb (x.put (be4 n)) := by
 obtain ⟨hok, vb, vn, va, X, hX, hsl⟩ := hI.sl
 refine aT [_, _] Tryz.func51 Tryz.ntmps51 Tryz.results51 rfl rfl (aB (dM rfl rfl (dM rfl rfl (lp (aN rfl) rfl (lp (aR fo_74_0 rfl) rfl (lp (aO rfl (aQ k_23 (hsl.st.get (k := 0) rfl) rfl)) rfl (dM rfl rfl (lp (po_shr (c := (n / 16777216 : Nat)) rfl rfl (by decide) (u32sh (k := 24) (n := n))) rfl (lp (bY Tryz.underlying27 Tryz.underlying5 rfl u8lo) rfl (dM rfl rfl (lp (po_shr (c := (n / 65536 : Nat)) rfl rfl (by decide) (u32sh (k := 16) (n := n))) rfl (lp (bY Tryz.underlying27 Tryz.underlying5 rfl u8lo) rfl (dM rfl rfl ?_)))))))))))))
 refine lp (po_shr (c := (n / 256 : Nat)) rfl rfl (by decide) (u32sh (k := 8) (n := n))) rfl (lp (bY Tryz.underlying27 Tryz.underlying5 rfl u8lo) rfl (dM rfl rfl (lp (bY Tryz.underlying27 Tryz.underlying5 rfl u8lo) rfl (l_appB (be4 n) el_23 hsl (fun _ => rfl) rfl rfl rfl (by decide) (by decide) (by omega) (by omega) rfl rfl (fun b14 v15 w hs => ?_)))))
 skip
 refine lp (aN rfl) rfl (lp (aR fo_74_0 rfl) rfl (aJ (o_storeS hs k_23 rfl rfl rfl hs.oneCell rfl (fun w hs => aH ⟨_, res0, ?_⟩))))
 exact hX.close (hok.put _) hs
end
section
variable {V : Vw} {w0 : World}
theorem n_fit (hV : V.In w0) (s : List UInt8) : eC Tryz.prog 26 #[fR s] w0 fun v w' => v = fR (eN s) ∧ St ⟨w0, V, V⟩ w' [] := by
 have hs := St.start hV
 refine aT [_] Tryz.func26 Tryz.ntmps26 Tryz.results26 rfl rfl (dP (dN rfl rfl (aH (dP (dM rfl rfl (dM rfl rfl (lp (po_lenS Tryz.underlying9 rfl) rfl (lp (po_min (c := ((min s.length 255 : Nat) : Int)) rfl rfl (by split <;> omega)) rfl (lp (po_headS (min s.length 255) Tryz.underlying9 rfl rfl rfl (Nat.min_le_left _ _)) rfl (dN rfl rfl (aH (aV ⟨_, fW rfl, ?_⟩))))))))))))
 refine ⟨?_, hs⟩
 unfold eN
 rcases Nat.le_total s.length 255 with h | h
 rw [Nat.min_eq_left h, List.take_length, List.take_of_length_le h]
 rw [Nat.min_eq_right h]
end
end Go.Proofs.YtgpfjlfkaoffeaaGreatDoor
namespace Go.Proofs.YtgpfjlfkaoffeaaGreatDoor
open Go
theorem lab_dot : ∀ {s : List UInt8}, s ≠ [] → s.getLast? = some 46 → (eO s).length < s.length ∧ eB s (eO s).length = 46 ∧ (∀ j, j < (eO s).length → eB s j ≠ 46) ∧ eO s = s.take (eO s).length
 | [], h, _ => absurd rfl h
 | a :: l, _, hl => by
  by_cases ha : a = 46
  subst ha
  have e : eO (46 :: l) = [] := by simp [eO]
  rw [e]
  exact ⟨by simp, by simp [eB], fun j hj => absurd hj (by simp), rfl⟩
  have hne : l ≠ [] := fun e => by subst e; simp at hl; exact ha hl
  have hl2 : l.getLast? = some 46 := by
   rw [List.getLast?_cons] at hl
   cases hq : l.getLast? with
   | none => exact absurd (List.getLast?_eq_none_iff.1 hq) hne
   | some q => rw [hq] at hl; simpa using hl
  obtain ⟨h1, h2, h3, h4⟩ := lab_dot hne hl2
  have e : eO (a :: l) = a :: eO l := by
   unfold eO
   rw [List.takeWhile_cons_of_pos (by simpa using ha)]
  rw [e]
  refine ⟨by simp only [List.length_cons]; omega, by simpa [eB] using h2, fun j hj => ?_, by rw [List.length_cons, List.take_succ_cons, ← h4]⟩
  cases j with
  | zero => exact fun h => ha (UInt8.toNat_inj.1 (by simpa [eB] using h))
  | succ j =>
   have := h3 j (by simp only [List.length_cons] at hj; omega)
   simpa [eB] using this
theorem last46 {s : List UInt8} (h0 : 0 < s.length) (hl : eB s (s.length - 1) = 46) : s.getLast? = some 46 := by
 rw [List.getLast?_eq_getElem?]
 unfold eB at hl
 have hx : s[s.length - 1]? = some s[s.length - 1] := List.getElem?_eq_getElem (by omega)
 rw [hx]
 rw [List.getD_eq_getElem?_getD, hx] at hl
 exact congrArg some (UInt8.toNat_inj.1 hl)
theorem drop46 {s : List UInt8} {k : Nat} (h : s.getLast? = some 46) : s.drop k = [] ∨ (s.drop k).getLast? = some 46 := by
 rcases Nat.lt_or_ge k s.length with hk | hk
 exact .inr (by rw [List.getLast?_drop, if_neg (by omega)]; exact h)
 exact .inl (List.drop_eq_nil_iff.2 hk)
theorem tblAt_none {t : List (List UInt8 × Nat)} {s : List UInt8} (h : ∀ j (hj : j < t.length), t[j].1 ≠ s) : tblAt t s = none := by
 unfold tblAt
 rw [List.find?_eq_none.2 fun e he => ?_]
 rfl
 obtain ⟨j, hj, rfl⟩ := List.getElem_of_mem he
 simpa using h j hj
theorem tblAt_first : ∀ {t : List (List UInt8 × Nat)} {s : List UInt8} {k : Nat} (hk : k < t.length), (∀ j (hj : j < t.length), j < k → t[j].1 ≠ s) → t[k].1 = s → tblAt t s = some t[k].2
 | [], _, _, hk, _, _ => absurd hk (by simp)
 | e :: t, s, 0, _, _, he => by
  have he' : e.1 = s := he
  unfold tblAt
  rw [List.find?_cons_of_pos (by simpa using he')]
  rfl
 | e :: t, s, k + 1, hk, hn, he => by
  have h0 : e.1 ≠ s := hn 0 (by simp) (by omega)
  have := tblAt_first (t := t) (s := s) (k := k) (by simpa using hk) (fun j hj hjk => hn (j + 1) (by simpa using hj) (by omega)) he
  unfold tblAt at this ⊢
  rw [List.find?_cons_of_neg (by simpa using h0)]
  exact this
theorem be2_ptr (p : Nat) : be2 (49152 + p) = [UInt8.ofNat (192 + p / 256), UInt8.ofNat p] := by
 have e2 : UInt8.ofNat (49152 + p) = UInt8.ofNat p := UInt8.toNat_inj.1 (by rw [UInt8.toNat_ofNat', UInt8.toNat_ofNat']; omega)
 unfold be2
 rw [e2, show (49152 + p) / 256 = 192 + p / 256 by omega]
section
variable {V V0 : Vw} {w w00 : World} {L : List (Nat × Obj)} {wb : Nat} {x : Ink} {s : List UInt8} {short : Bool}
set_option maxHeartbeats 8000000 in
theorem n_name (hI : fZ ⟨w00, V0, V⟩ w L wb x) (hx : x.out.length ≤ 549755813888) (hs255 : s.length ≤ 255) :
  eC Tryz.prog 25 #[.pointer (some ⟨wb, 0, none⟩), fR s, .bool short] w fun v w' => ∃ (ok : Bool) (x' : Ink), v = .bool ok ∧ fZ ⟨w00, V0, V⟩ w' L wb x' ∧ ((ok = true ∧ nameP short s x = some x') ∨ (ok = false ∧ nameP short s x = none)) := by
 refine aT [_, _, _] Tryz.func25 Tryz.ntmps25 Tryz.results25 rfl rfl (dP (dN rfl rfl (aH (aF (aF ?_)))))
 rcases (by omega : 254 < s.length ∨ s.length = 0 ∨ (s.length ≤ 254 ∧ 0 < s.length)) with h1 | h1 | ⟨h1, h2⟩
 refine aB (dM rfl rfl (lp (po_lenS Tryz.underlying9 rfl) rfl (lp (po_gtrT rfl rfl (by omega)) rfl (dM rfl rfl (aU rfl rfl rfl rfl (aU rfl rfl rfl rfl (lp (bO rfl rfl rfl) rfl (dM rfl rfl (aU rfl rfl rfl rfl (aU rfl rfl rfl rfl (aU rfl rfl rfl rfl (aU rfl rfl rfl rfl (aU rfl rfl rfl rfl ?_)))))))))))))
 refine aU rfl rfl rfl rfl (lp (bO rfl rfl rfl) rfl (aH (cO rfl rfl (dP (dN rfl rfl (aH (aV ⟨_, fW rfl, ?_⟩)))))))
 exact ⟨false, x, rfl, hI, .inr ⟨rfl, nameP_no (.inr (.inl h1))⟩⟩
 refine aB (dM rfl rfl (lp (po_lenS Tryz.underlying9 rfl) rfl (lp (po_gtrF rfl rfl (by omega)) rfl (dM rfl rfl (lg rfl rfl rfl (aC rfl) rfl (lg rfl rfl rfl (po_eqlST (b := []) rfl rfl (List.eq_nil_of_length_eq_zero h1)) rfl (lp (bW rfl rfl rfl) rfl (dM rfl rfl (aU rfl rfl rfl rfl (aU rfl rfl rfl rfl (aU rfl rfl rfl rfl (aU rfl rfl rfl rfl (aU rfl rfl rfl rfl ?_)))))))))))))
 refine aU rfl rfl rfl rfl (lp (bO rfl rfl rfl) rfl (aH (cO rfl rfl (dP (dN rfl rfl (aH (aV ⟨_, fW rfl, ?_⟩)))))))
 exact ⟨false, x, rfl, hI, .inr ⟨rfl, nameP_no (.inl h1)⟩⟩
 refine aB (dM rfl rfl (lp (po_lenS Tryz.underlying9 rfl) rfl (lp (po_gtrF rfl rfl (by omega)) rfl (dM rfl rfl (lg rfl rfl rfl (aC rfl) rfl (lg rfl rfl rfl (po_eqlSF (b := []) rfl rfl (by rintro rfl; simp at h2)) rfl (lp (bW rfl rfl rfl) rfl (dM rfl rfl (lg rfl rfl rfl (aC rfl) rfl (lg rfl rfl rfl (aC rfl) rfl (lg rfl rfl rfl (po_lenS Tryz.underlying9 rfl) rfl (lg rfl rfl rfl (po_sub rfl rfl (fV (c := s.length - 1) (by omega) (by omega))) rfl (lg rfl rfl rfl (po_indexS (s.length - 1) Tryz.underlying9 rfl rfl rfl (by omega)) rfl ?_)))))))))))))
 refine lg rfl rfl rfl (po_neq rfl rfl) rfl (lp (bW rfl rfl rfl) rfl (aH (bH rfl (fun hc2 => ?_) (fun hc2 => ?_))))
 refine dP (dN rfl rfl (aH (aV ⟨_, fW rfl, ?_⟩)))
 exact ⟨false, x, rfl, hI, .inr ⟨rfl, nameP_no (.inr (.inr (by omega)))⟩⟩
 have hl : eB s (s.length - 1) = 46 := by omega
 refine aW (aF (dP (dM rfl rfl (lp (po_eqlS (b := [46]) rfl rfl) rfl (aH (bH rfl (fun hc3 => ?_) (fun hc3 => ?_)))))))
 refine aF ?_
 obtain ⟨hok, vb, vn, va, X, hX, hsl⟩ := hI.sl
 refine aB (dM rfl rfl (dM rfl rfl (lp (aN rfl) rfl (lp (aR fo_74_0 rfl) rfl (lp (aO rfl (aQ k_23 (hsl.st.get (k := 0) rfl) rfl)) rfl (l_appB [0] el_23 hsl (fun _ => rfl) rfl rfl rfl (by decide) (by decide) (by omega) (by omega) rfl rfl (fun b31 v32 w hs => ?_)))))))
 skip
 refine lp (aN rfl) rfl (lp (aR fo_74_0 rfl) rfl (aJ (o_storeS hs k_23 rfl rfl rfl hs.oneCell rfl (fun w hs => aH (dP (dN rfl rfl (aH (aV ⟨_, fW rfl, ?_⟩))))))))
 exact ⟨true, _, rfl, hX.close (hok.put _) hs, .inl ⟨rfl, nameP_dot hc3⟩⟩
 have hgo := nameP_go (short := short) (w := x) h2 h1 hl hc3
 have hlast := last46 h2 hl
 refine aW (aF (bQ (dC (fun g : List UInt8 × Ink => eH (eH (eH emp 2 (.bool short)) 1 (fR g.1)) 0 (.pointer (some ⟨wb, 0, none⟩))) (fun g w => fZ ⟨w00, V0, V⟩ w L wb g.2 ∧ goN short g.1 g.2 = nameP short s x ∧ (g.1 = [] ∨ g.1.getLast? = some 46) ∧ g.2.out.length + g.1.length = x.out.length + s.length) (fun g => g.1.length) (s, x) (aL rfl (aL rfl (aL rfl (bG _)))) ⟨hI, hgo.symm, .inr hlast, rfl⟩ ?_)))
 clear hI
 rintro ⟨r, y⟩ w ⟨hI, hgo', hla, hsum⟩
 simp only at hI hgo' hla hsum ⊢
 refine aF (dP (dM rfl rfl (lp (po_neqS (b := []) rfl rfl) rfl (aH (bH rfl (fun hc4 => ?_) (fun hc4 => ?_))))))
 replace hla := hla.resolve_left hc4
 obtain ⟨ln, lb, lno, lt⟩ := lab_dot hc4 hla
 obtain ⟨hok, vb, vn, va, X, hX, hsl⟩ := hI.sl
 have hfew := hok.few
 obtain ⟨an, cn, rfl⟩ := hX.names
 obtain ⟨ab, cb, rfl⟩ := hsl.size
 have hMX : ∀ {o : Nat × Obj}, ∀ z ∈ X, z ∈ o :: (L ++ X) := fun z hz => List.mem_cons_of_mem _ (List.mem_append_right _ hz)
 refine aW (bQ (aF (dP (dM rfl rfl (lp (aN rfl) rfl (lp (aR fo_74_1 rfl) rfl (lp (aO rfl (aQ k_28 (hsl.st.get (k := 0) rfl) rfl)) rfl (lp (bC Tryz.underlying28 rfl) rfl (dM rfl rfl (aH (bQ (dC (fun k : Nat => eH (eH (eH (eH (eH emp 42 (.int .i64 k)) 41 (.int .i64 y.tbl.length)) 2 (.bool short)) 1 (fR r)) 0 (.pointer (some ⟨wb, 0, none⟩))) (fun k w2 => w = w2 ∧ k ≤ y.tbl.length ∧ (short = true → ∀ j (h : j < y.tbl.length), j < k → y.tbl[j].1 ≠ r)) (fun k => y.tbl.length - k) 0 (aL rfl (aL rfl (aL rfl (aL rfl (aL rfl (bG _)))))) ⟨rfl, Nat.zero_le _, fun _ j _ h => absurd h (by omega)⟩ ?_))))))))))))
 rintro k w2 ⟨hw2, hk, hne⟩
 subst hw2
 refine dP (lp (cY rfl rfl) rfl (aH (aF (bH rfl (fun hc5 => ?_) (fun hc5 => ?_)))))
 have hkl : k < y.tbl.length := by omega
 have hpl := hok.pl _ (List.getElem_mem hkl)
 obtain ⟨p, hp⟩ : ∃ p, y.tbl[k].2 = p := ⟨_, rfl⟩
 rw [hp] at hpl
 obtain ⟨gn, cn2, g2, c2, e1, rfl, hrw⟩ := hX.rows (by omega)
 cases e1
 obtain ⟨hrn, hra⟩ := hrw ⟨w00, V0, V⟩ X (fun _ h => h)
 have hnm : ∀ {M : List (Nat × Obj)} {w2 : World}, (∀ z ∈ X, z ∈ M) → St ⟨w00, V0, V⟩ w2 M → w2.cell? ⟨gn, k, none⟩ = some (fR y.tbl[k].1) := fun hM h => by
  have q := hrn.ld h hM k (u := fR y.tbl[k].1) (by simp [nmR, hkl])
  rwa [Nat.zero_add] at q
 have hat : ∀ {M : List (Nat × Obj)} {w2 : World}, (∀ z ∈ X, z ∈ M) → St ⟨w00, V0, V⟩ w2 M → w2.cell? ⟨g2, k, none⟩ = some (.int .i64 p) := fun hM h => by
  have q := hra.ld h hM k (u := .int .i64 p) (by simp [atR, hkl, hp])
  rwa [Nat.zero_add] at q
 refine aW (aF (bQ (dP (dM rfl rfl (dN rfl rfl (aH (aF ?_)))))))
 rcases (by cases short <;> simp : short = false ∨ short = true) with hg | hg
 refine aB (dM rfl rfl (dM rfl rfl (aU rfl rfl hg rfl (aU rfl rfl hg rfl (aU rfl rfl hg rfl (aU rfl rfl hg rfl (aU rfl rfl hg rfl (aU rfl rfl hg rfl (aU rfl rfl hg rfl (aU rfl rfl hg rfl (aU rfl rfl hg rfl (lp (bW rfl hg rfl) rfl (aH ?_)))))))))))))
 refine aY rfl rfl (aW (aB (lp (bN rfl rfl (fV (c := k + 1) (by omega) (by omega))) rfl (dM rfl rfl (aH ?_)))))
 exact ⟨k + 1, aL rfl (aL rfl (aL rfl (aL rfl (aL rfl (bG _))))), ⟨rfl, hkl, fun h => by rw [hg] at h; cases h⟩, by omega⟩
 refine aB (dM rfl rfl (dM rfl rfl (lg rfl rfl hg (aC rfl) rfl (lg rfl rfl hg (aN rfl) rfl (lg rfl rfl hg (aR fo_74_1 rfl) rfl (lg rfl rfl hg (aO rfl (aQ k_28 (hsl.st.get (k := 0) rfl) rfl)) rfl (lg rfl rfl hg (aC rfl) rfl (lg rfl rfl hg (eZ k k es_28 rfl rfl rfl hkl (by omega)) rfl (lg rfl rfl hg (aO rfl (bR k_9 (hnm hMX hsl.st))) rfl (lg rfl rfl hg (aC rfl) rfl (lg rfl rfl hg (po_eqlS rfl rfl) rfl (lp (bO rfl hg rfl) rfl (aH ?_)))))))))))))
 refine bH rfl (fun hc7 => ?_) (fun hc7 => ?_)
 refine aF ?_
 obtain ⟨Xb, hXb, hs⟩ := hsl.open
 refine e_draw (fun w2 => w2.heap[wb]? = some (.cells [Value.slice ab y.out.length cb, .slice (some ⟨gn, 0, none⟩) y.tbl.length cn, .slice (some ⟨g2, 0, none⟩) y.tbl.length c2].toArray 74 (0, 0)) ∧ w2.cell? ⟨g2, k, none⟩ = some (.int .i64 p)) [4, 8, 11, 18, 21] mixed (fun w hw => ?_)
 replace hs := hw.st hs
 refine dI 0 rfl (fun w => aC rfl) rfl rfl (dI 1 rfl (fun w => aC rfl) rfl rfl (dI 2 rfl (fun w => aN rfl) rfl rfl (dI 3 rfl (fun w => aR fo_74_0 rfl) rfl rfl (dJ 4 rfl (⟨hs.g 0 rfl, hat (fun z hz => List.mem_append_left _ (hMX z hz)) hs⟩) rfl (fun w hf => (aO rfl (aQ k_23 hf.1 rfl))) rfl (dI 5 rfl (fun w => aC rfl) rfl rfl (dI 6 rfl (fun w => aN rfl) rfl rfl (dI 7 rfl (fun w => aR fo_74_2 rfl) rfl rfl (dJ 8 rfl (⟨hs.g 0 rfl, hat (fun z hz => List.mem_append_left _ (hMX z hz)) hs⟩) rfl (fun w hf => (aO rfl (aQ k_62 hf.1 rfl))) rfl (dI 9 rfl (fun w => aC rfl) rfl rfl (dI 10 rfl (fun w => (eZ k k es_62 rfl rfl rfl hkl (by omega))) rfl rfl (dJ 11 rfl (⟨hs.g 0 rfl, hat (fun z hz => List.mem_append_left _ (hMX z hz)) hs⟩) rfl (fun w hf => (aO rfl (bR cH hf.2))) rfl (dI 12 rfl (fun w => (po_shr (c := (p / 256 : Nat)) rfl rfl (by decide) (i64sh8 (n := p)))) rfl rfl (dI 13 rfl (fun w => (bN rfl rfl (fV (c := 192 + p / 256) (by omega) (by omega)))) rfl rfl ?_)))))))))))))
 refine dI 14 rfl (fun w => bY Tryz.underlying3 Tryz.underlying5 rfl u8lo) rfl rfl (dI 15 rfl (fun w => aC rfl) rfl rfl (dI 16 rfl (fun w => aN rfl) rfl rfl (dI 17 rfl (fun w => aR fo_74_2 rfl) rfl rfl (dJ 18 rfl (⟨hs.g 0 rfl, hat (fun z hz => List.mem_append_left _ (hMX z hz)) hs⟩) rfl (fun w hf => (aO rfl (aQ k_62 hf.1 rfl))) rfl (dI 19 rfl (fun w => aC rfl) rfl rfl (dI 20 rfl (fun w => (eZ k k es_62 rfl rfl rfl hkl (by omega))) rfl rfl (dJ 21 rfl (⟨hs.g 0 rfl, hat (fun z hz => List.mem_append_left _ (hMX z hz)) hs⟩) rfl (fun w hf => (aO rfl (bR cH hf.2))) rfl (dI 22 rfl (fun w => bY Tryz.underlying3 Tryz.underlying5 rfl u8lo) rfl rfl (dL 23 rfl (o_bslice (vls := [[eA (UInt8.ofNat (192 + p / 256))], [eA (UInt8.ofNat p)]]) el_23 hs rfl rfl rfl rfl (by simp) (by decide) (by decide) rfl (fun b80 w hb80 he80 hs => ⟨fun _ => ⟨hs.g 1 rfl, hat (fun z hz => List.mem_cons_of_mem _ (List.mem_append_left _ (hMX z hz))) hs⟩, dL 24 rfl (fA (k := 2) (news := [eA (UInt8.ofNat (192 + p / 256)), eA (UInt8.ofNat p)]) el_23 (.inr ⟨_, Tryz.underlying23⟩) (SlX.close (L := (b80, _) :: (wb, _) :: (L ++ X)) hXb hs) rfl rfl (src_own (k := 0) hs rfl rfl) (dH [_, _]) (by omega) (by omega) rfl (fun v81 w hs => ⟨fun _ => ⟨hs.st.get (k := 1) rfl, hat (fun z hz => List.mem_cons_of_mem _ (hMX z hz)) hs.st⟩, ?_⟩))⟩)))))))))))
 replace hs := hs.drop hb80
 refine dI 25 rfl (fun w => aN rfl) rfl rfl (dI 26 rfl (fun w => aR fo_74_0 rfl) rfl rfl (dL 27 rfl (o_storeS hs k_23 rfl rfl rfl hs.oneCell rfl (fun w hs => ⟨fun h => absurd h (by decide +kernel), bS (by decide +kernel) (dP (dN rfl rfl (aH (aV ⟨_, fW rfl, ?_⟩))))⟩))))
 exact ⟨true, y.put (be2 (49152 + p)), rfl, hX.close (hok.put _) (by rw [be2_ptr, List.map_append]; exact hs), .inl ⟨rfl, by rw [← hgo', hg, ← hp]; exact goN_hit hc4 (tblAt_first hkl (hne hg) hc7)⟩⟩
 refine aW (aB (lp (bN rfl rfl (fV (c := k + 1) (by omega) (by omega))) rfl (dM rfl rfl (aH ?_))))
 exact ⟨k + 1, aL rfl (aL rfl (aL rfl (aL rfl (aL rfl (bG _))))), ⟨rfl, hkl, fun h j hj hjk => by
  by_cases e : j = k
  subst e; exact hc7
  exact hne h j hj (by omega)⟩, by omega⟩
 have hkn : k = y.tbl.length := by omega
 have hmiss : short = false ∨ tblAt y.tbl r = none := by
  cases short with
  | false => exact .inl rfl
  | true => exact .inr (tblAt_none fun j hj => hne rfl j hj (by omega))
 have hstep := goN_step (short := short) (w := y) hc4 hmiss
 refine eT (dP (dN rfl rfl (aH (aF (bQ (dC (fun i : Nat => eH (eH (eH (eH emp 8 (.int .i64 i)) 2 (.bool short)) 1 (fR r)) 0 (.pointer (some ⟨wb, 0, none⟩))) (fun i w2 => w = w2 ∧ i ≤ (eO r).length) (fun i => (eO r).length - i) 0 (aL rfl (aL rfl (aL rfl (aL rfl (bG _))))) ⟨rfl, Nat.zero_le _⟩ ?_))))))
 rintro i w2 ⟨hw2, hi⟩
 subst hw2
 refine aF (dP (dM rfl rfl (dM rfl rfl (lp (po_indexS i Tryz.underlying9 rfl rfl rfl (by omega)) rfl (lp (po_neq rfl rfl) rfl (aH (bH rfl (fun hc8 => ?_) (fun hc8 => ?_))))))))
 have hil : i < (eO r).length := Nat.lt_of_le_of_ne hi (fun e => absurd (show ((eB r i : Nat) : Int) = 46 by rw [e, lb]; rfl) hc8)
 refine aW (bQ (aB (dM rfl rfl (lp (bN rfl rfl (fV (c := i + 1) (by omega) (by omega))) rfl (dN rfl rfl (aH ?_))))))
 exact ⟨i + 1, aL rfl (aL rfl (aL rfl (aL rfl (bG _)))), ⟨rfl, hil⟩, by omega⟩
 have hin : i = (eO r).length := Nat.le_antisymm hi (Nat.not_lt.1 fun h => lno i h (by omega))
 subst hin
 refine eT (aF (aF ?_))
 rcases Nat.eq_zero_or_pos (eO r).length with hn | hn
 refine aB (dM rfl rfl (lp (po_eqlT rfl rfl (by omega)) rfl (dM rfl rfl (aU rfl rfl rfl rfl (aU rfl rfl rfl rfl (lp (bO rfl rfl rfl) rfl (aH (cO rfl rfl (dP (dN rfl rfl (aH (aV ⟨_, fW rfl, ?_⟩))))))))))))
 exact ⟨false, y, rfl, hX.close hok hsl, .inr ⟨rfl, by rw [← hgo', hstep]; unfold midN; rw [if_pos (.inl hn)]⟩⟩
 refine aB (dM rfl rfl (lp (po_eqlF rfl rfl (by omega)) rfl (dM rfl rfl (lg rfl rfl rfl (aC rfl) rfl (lg rfl rfl rfl (cQ rfl rfl) rfl (lp (bW rfl rfl rfl) rfl (aH (bH rfl (fun hc10 => ?_) (fun hc10 => ?_)))))))))
 refine dP (dN rfl rfl (aH (aV ⟨_, fW rfl, ?_⟩)))
 exact ⟨false, y, rfl, hX.close hok hsl, .inr ⟨rfl, by rw [← hgo', hstep]; unfold midN; rw [if_pos (.inr (by omega))]⟩⟩
 refine aW (dG (fun ρ w2 => Sub (eH (eH (eH (eH emp 8 (.int .i64 (eO r).length)) 2 (.bool short)) 1 (fR r)) 0 (.pointer (some ⟨wb, 0, none⟩))) ρ ∧ ∃ vb vn va X, InkX w00.heap.size X vn va (putTbl short r y).tbl ∧ Sl 5 1 ⟨w00, V0, V⟩ w2 ((wb, .cells [vb, vn, va].toArray 74 (0, 0)) :: (L ++ X)) vb y.out.length (y.out.map eA)) ?_ ?_)
 refine dG (fun ρ w2 => w = w2 ∧ Sub (eH (eH (eH (eH (eH emp 105 (.bool (decide (short = true ∧ y.out.length < 16384)))) 8 (.int .i64 (eO r).length)) 2 (.bool short)) 1 (fR r)) 0 (.pointer (some ⟨wb, 0, none⟩))) ρ) ?_ ?_
 rcases (by cases short <;> simp : short = false ∨ short = true) with hg | hg
 refine aB (dM rfl rfl (dM rfl rfl (aU rfl rfl hg rfl (aU rfl rfl hg rfl (aU rfl rfl hg rfl (aU rfl rfl hg rfl (aU rfl rfl hg rfl (aU rfl rfl hg rfl (lp (bW rfl hg rfl) rfl (aH ?_))))))))))
 exact ⟨rfl, aL rfl (aL rfl (aL rfl (aL rfl (aL (by rw [show decide (short = true ∧ y.out.length < 16384) = false by simp [hg]]; rfl) (bG _)))))⟩
 refine aB (dM rfl rfl (dM rfl rfl (lg rfl rfl hg (aC rfl) rfl (lg rfl rfl hg (aN rfl) rfl (lg rfl rfl hg (aR fo_74_0 rfl) rfl (lg rfl rfl hg (aO rfl (aQ k_23 (hsl.st.get (k := 0) rfl) rfl)) rfl (lg rfl rfl hg (bC Tryz.underlying23 rfl) rfl (lg rfl rfl hg (cY rfl rfl) rfl (lp (bO rfl hg rfl) rfl (aH ?_))))))))))
 exact ⟨rfl, aL rfl (aL rfl (aL rfl (aL rfl (aL (by rw [show decide (short = true ∧ y.out.length < 16384) = decide ((y.out.length : Int) < 16384) from decide_eq_decide.2 ⟨fun h => by omega, fun h => ⟨hg, by omega⟩⟩]; rfl) (bG _)))))⟩
 rintro ρ w2 ⟨hw2, hsub⟩
 subst hw2
 refine EW.weaken hsub (bH rfl (fun hc11 => ?_) (fun hc11 => ?_))
 refine aF ?_
 obtain ⟨Xn, Xa, rfl, hXn, hXa⟩ := hX
 obtain ⟨Xb, hXb, hsn⟩ := hsl.rot hXn
 refine aB (dM rfl rfl (dM rfl rfl (lp (aN rfl) rfl (lp (aR fo_74_1 rfl) rfl (lp (aO rfl (aQ k_28 (hsn.st.get (k := 0) rfl) rfl)) rfl (dM rfl rfl (l_app1 (cl := [fR r]) el_28 hsn (fun _ => rfl) rfl rfl rfl (bX rfl eQ) (by decide) (by omega) (by omega) rfl rfl (fun b112 v113 w hs => ?_))))))))
 skip
 refine lp (aN rfl) rfl (lp (aR fo_74_1 rfl) rfl (aJ (o_storeS hs k_28 rfl rfl rfl hs.oneCell rfl (fun w hs => aH ?_))))
 obtain ⟨Xn2, hXn2, hsa⟩ := hs.rot hXa
 clear hs
 obtain ⟨Xa2, hXa2, hs⟩ := hsa.open
 refine e_draw (fun w2 => w2.heap[wb]? = some (.cells [Value.slice ab y.out.length cb, v113, va].toArray 74 (0, 0))) [4, 8] mixed (fun w hw => ?_)
 replace hs := hw.st hs
 refine dI 0 rfl (fun w => aC rfl) rfl rfl (dI 1 rfl (fun w => aC rfl) rfl rfl (dI 2 rfl (fun w => aN rfl) rfl rfl (dI 3 rfl (fun w => aR fo_74_2 rfl) rfl rfl (dJ 4 rfl (hs.g 0 rfl) rfl (fun w hf => (aO rfl (aQ k_62 hf rfl))) rfl (dI 5 rfl (fun w => aC rfl) rfl rfl (dI 6 rfl (fun w => aN rfl) rfl rfl (dI 7 rfl (fun w => aR fo_74_0 rfl) rfl rfl (dJ 8 rfl (hs.g 0 rfl) rfl (fun w hf => (aO rfl (aQ k_23 hf rfl))) rfl (dI 9 rfl (fun w => bC Tryz.underlying23 rfl) rfl rfl (dL 10 rfl (o_bslice (vls := [[.int .i64 y.out.length]]) el_62 hs rfl rfl rfl rfl (by simp) (by decide) (by decide) rfl (fun b126 w hb126 he126 hs => ⟨fun _ => hs.g 1 rfl, dL 11 rfl (fA (k := 1) (news := [.int .i64 y.out.length]) el_62 (.inr ⟨_, Tryz.underlying62⟩) (SlX.close (L := (b126, _) :: (wb, _) :: (L ++ (Xb ++ Xn2))) hXa2 hs) rfl rfl (src_own (k := 0) hs rfl rfl) (bX rfl eQ) (by omega) (by omega) rfl (fun v127 w hs => ⟨fun _ => hs.st.get (k := 1) rfl, ?_⟩))⟩))))))))))))
 replace hs := hs.drop hb126
 refine dI 12 rfl (fun w => aN rfl) rfl rfl (dI 13 rfl (fun w => aR fo_74_2 rfl) rfl rfl (dL 14 rfl (o_storeS hs k_62 rfl rfl rfl hs.oneCell rfl (fun w hs => ⟨fun h => absurd h (by decide +kernel), bS (by decide +kernel) ?_⟩))))
 obtain ⟨Xa3, hXa3, hsb⟩ := hs.rot hXb
 have e : (putTbl short r y).tbl = y.tbl ++ [(r, y.out.length)] := by unfold putTbl; exact if_pos hc11
 exact ⟨aL rfl (aL rfl (aL rfl (aL rfl (bG _)))), _, _, _, _, ⟨Xn2, Xa3, rfl, by rw [e]; simpa [nmR] using hXn2, by rw [e]; simpa [atR] using hXa3⟩, hsb⟩
 refine aW ?_
 have e : (putTbl short r y).tbl = y.tbl := by unfold putTbl; exact if_neg hc11
 exact ⟨aL rfl (aL rfl (aL rfl (aL rfl (bG _)))), _, _, _, X, by rw [e]; exact hX, hsl⟩
 rintro ρ w2 ⟨hsub, vb2, vn2, va2, X2, hX2, hsl2⟩
 refine EW.weaken hsub (aF ?_)
 obtain ⟨Xb2, hXb2, hs⟩ := hsl2.open
 have hlt : (r.take (eO r).length).length = (eO r).length := by rw [← lt]
 refine e_draw (fun w2 => w2.heap[wb]? = some (.cells [vb2, vn2, va2].toArray 74 (0, 0))) [4] mixed (fun w hw => ?_)
 replace hs := hw.st hs
 refine dI 0 rfl (fun w => aC rfl) rfl rfl (dI 1 rfl (fun w => aC rfl) rfl rfl (dI 2 rfl (fun w => aN rfl) rfl rfl (dI 3 rfl (fun w => aR fo_74_0 rfl) rfl rfl (dJ 4 rfl (hs.g 0 rfl) rfl (fun w hf => (aO rfl (aQ k_23 hf rfl))) rfl (dI 5 rfl (fun w => aC rfl) rfl rfl (dI 6 rfl (fun w => bY Tryz.underlying3 Tryz.underlying5 rfl u8lo) rfl rfl (dI 9 rfl (fun w => aC rfl) rfl rfl (dI 10 rfl (fun w => aC rfl) rfl rfl (dI 11 rfl (fun w => (po_headS (eO r).length Tryz.underlying9 rfl rfl rfl (by omega))) rfl rfl (dL 7 rfl (o_bslice (vls := [[eA (UInt8.ofNat (eO r).length)]]) el_23 hs rfl rfl rfl rfl (by simp) (by decide) (by decide) rfl (fun b137 w hb137 he137 hs => ⟨fun _ => hs.g 1 rfl, dL 8 rfl (fA (k := 1) (news := [eA (UInt8.ofNat (eO r).length)]) el_23 (.inr ⟨_, Tryz.underlying23⟩) (SlX.close (L := (b137, _) :: (wb, _) :: (L ++ X2)) hXb2 hs) rfl rfl (src_own (k := 0) hs rfl rfl) (dH [_]) (by omega) (by omega) rfl (fun v138 w hs => ⟨fun _ => hs.st.get (k := 1) rfl, ?_⟩))⟩))))))))))))
 replace hs := hs.drop hb137
 refine dL 12 rfl (fA (k := (r.take (eO r).length).length) (news := (r.take (eO r).length).map eA) el_23 (.inl Tryz.underlying9) hs rfl rfl src_strV (dH _) (by omega) (by omega) rfl (fun v142 w hs => ⟨fun _ => hs.st.get (k := 0) rfl, dI 13 rfl (fun w => aN rfl) rfl rfl (dI 14 rfl (fun w => aR fo_74_0 rfl) rfl rfl (dL 15 rfl (o_storeS hs k_23 rfl rfl rfl hs.oneCell rfl (fun w hs => ⟨fun h => absurd h (by decide +kernel), bS (by decide +kernel) (aB (dM rfl rfl (dM rfl rfl (lp (bN rfl rfl (fV (c := (eO r).length + 1) (by omega) (by omega))) rfl (lp (po_strRest ((eO r).length + 1) Tryz.underlying9 rfl rfl rfl (by omega)) rfl (dN rfl rfl (aH ?_)))))))⟩))))⟩))
 have htl : (putTbl short r y).tbl.length ≤ y.tbl.length + 1 := by unfold putTbl; split <;> simp
 have hok2 : InkOk ⟨y.out ++ UInt8.ofNat (eO r).length :: eO r, (putTbl short r y).tbl⟩ := ⟨hok.pl.put, by simp only [List.length_append, List.length_cons]; omega⟩
 rw [← lt] at hs
 exact ⟨(r.drop ((eO r).length + 1), ⟨y.out ++ UInt8.ofNat (eO r).length :: eO r, (putTbl short r y).tbl⟩), aL rfl (aL rfl (aL rfl (bG _))), ⟨hX2.close hok2 (by simpa using hs), by rw [← hgo', hstep]; unfold midN; rw [if_neg (by omega)]; rfl, drop46 hla, by simp only [List.length_append, List.length_cons, List.length_drop]; omega⟩, by simp only [List.length_drop]; omega⟩
 have hr : r = [] := Classical.not_not.1 hc4
 refine eT (aF ?_)
 subst hr
 obtain ⟨hok, vb, vn, va, X, hX, hsl⟩ := hI.sl
 refine aB (dM rfl rfl (dM rfl rfl (lp (aN rfl) rfl (lp (aR fo_74_0 rfl) rfl (lp (aO rfl (aQ k_23 (hsl.st.get (k := 0) rfl) rfl)) rfl (l_appB [0] el_23 hsl (fun _ => rfl) rfl rfl rfl (by decide) (by decide) (by omega) (by omega) rfl rfl (fun b31 v32 w hs => ?_)))))))
 skip
 refine lp (aN rfl) rfl (lp (aR fo_74_0 rfl) rfl (aJ (o_storeS hs k_23 rfl rfl rfl hs.oneCell rfl (fun w hs => aH (dP (dN rfl rfl (aH (aV ⟨_, fW rfl, ?_⟩))))))))
 exact ⟨true, _, rfl, hX.close (hok.put _) hs, .inl ⟨rfl, by rw [← hgo', goN_nil]; rfl⟩⟩
end
end Go.Proofs.YtgpfjlfkaoffeaaGreatDoor

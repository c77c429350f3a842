/- The proof layer of this claim, seventh part: short words, bytes in memory, arithmetic. The plain model: what bytes read as, and what a machine that reads them does. -/
import Derived.Test.YtgpfjlfkaoffeaaGreatDoorR03
import Derived.IntWalk
set_option linter.all false
namespace Go.Proofs.YtgpfjlfkaoffeaaGreatDoor
open Go
abbrev rep (n : Nat) (v : Value) : List Value := List.replicate n v
section
variable {P : Program} {n : Nat} {ρ : Env} {w0 : Base} {w : World} {L : List (Nat × Obj)} {K : Env → World → Prop} {ops : Array Oper} {rest : List Oper}
theorem lp {d : Tmp} {op : Op} {ty : TypeId} {pos : String} {af : Array Edge} {v : Value} (h : PO P op ρ w v) (hd : Nat.blt d n = true) (hk : LW P n ops rest K (eH ρ d v) w) :
    LW P n ops (⟨some d, op, ty, pos, af, none⟩ :: rest) K ρ w := aJ (o_pure h hd hk)
theorem dM {d : Tmp} {x : Operand} {ty : TypeId} {pos : String} {af : Array Edge} {v : Value} (h : ev ρ x = some v) (hd : Nat.blt d n = true) (hk : LW P n ops rest K (eH ρ d v) w) :
    LW P n ops (⟨some d, .move x, ty, pos, af, none⟩ :: rest) K ρ w := lp (aC h) hd hk
theorem dN {d : Tmp} {x : Operand} {ty : TypeId} {pos : String} {af : Array Edge} {v : Value} (h : ev ρ x = some v) (hd : Nat.blt d n = true) (hk : LW P n ops rest K (eH ρ d v) w) :
    LW P n ops (⟨some d, .assign x, ty, pos, af, none⟩ :: rest) K ρ w := lp (aD h) hd hk
theorem dO {d : Tmp} {x : Operand} {i : Nat} {l : List Value} {ty : TypeId} {pos : String} {af : Array Edge} {v : Value} (h : ev ρ x = some (.tuple l.toArray)) (hi : lget l i = some v) (hd : Nat.blt d n = true)
    (hk : LW P n ops rest K (eH ρ d v) w) : LW P n ops (⟨some d, .extract x i, ty, pos, af, none⟩ :: rest) K ρ w := lp (aI h hi) hd hk
theorem lg {d j t : Tmp} {op : Op} {ty : TypeId} {pos : String} {af : Array Edge} {v : Value} {b want : Bool} (hj : guardOf ops j = some t) (ht : ρ t = some (.bool b)) (hb : b = want) (h : PO P op ρ w v) (hd : Nat.blt d n = true)
    (hk : LW P n ops rest K (eH ρ d v) w) : LW P n ops (⟨some d, op, ty, pos, af, some (j, want)⟩ :: rest) K ρ w := cX hj ht hb (o_pure h hd hk)
end
theorem i64w {n : Int} (h : -9223372036854775808 ≤ n ∧ n ≤ 9223372036854775807) : IntKind.i64.wrap n = n := by
  rw [IntKind.wrap_i64]; omega
theorem u8w {n : Int} (h : 0 ≤ n ∧ n ≤ 255) : IntKind.u8.wrap n = n := by
  have : IntKind.u8.wrap n = n % 256 := by simp [IntKind.wrap, IntKind.signed, IntKind.bits]
  rw [this]; omega
theorem u16w {n : Int} (h : 0 ≤ n ∧ n ≤ 65535) : IntKind.u16.wrap n = n := by
  have : IntKind.u16.wrap n = n % 65536 := by simp [IntKind.wrap, IntKind.signed, IntKind.bits]
  rw [this]; omega
theorem u32w {n : Int} (h : 0 ≤ n ∧ n ≤ 4294967295) : IntKind.u32.wrap n = n := by
  have : IntKind.u32.wrap n = n % 4294967296 := by simp [IntKind.wrap, IntKind.signed, IntKind.bits]
  rw [this]; omega
theorem u16m (n : Int) : IntKind.u16.wrap n = n % 65536 := by simp [IntKind.wrap, IntKind.signed, IntKind.bits]
theorem u32m (n : Int) : IntKind.u32.wrap n = n % 4294967296 := by simp [IntKind.wrap, IntKind.signed, IntKind.bits]
theorem SW.cell {w w' : World} (h : SW w w') {a : Addr} {v : Value} (hc : w.cell? a = some v) : w'.cell? a = some v := by
  unfold World.cell? at *; rw [h.1]; exact hc
theorem SW.heap {w w' : World} (h : SW w w') {b : Nat} {o : Obj} (hc : w.heap[b]? = some o) : w'.heap[b]? = some o := by rw [h.1]; exact hc
theorem SW.trans {w w' w2 : World} (h : SW w w') (k : SW w' w2) : SW w w2 := ⟨k.1.trans h.1, k.2.1.trans h.2.1, k.2.2.1.trans h.2.2.1, k.2.2.2.trans h.2.2.2⟩
theorem SW.symm {w w' : World} (h : SW w w') : SW w' w := ⟨h.1.symm, h.2.1.symm, h.2.2.1.symm, h.2.2.2.symm⟩
def Vw.cell (V : Vw) (b q : Nat) : Option Value :=
  match V b with
  | some (.cells cs _ _) => cs[q]?
  | _ => none
theorem Vw.cell_in {V : Vw} {w : World} (hV : V.In w) {b q : Nat} {u : Value} (h : V.cell b q = some u) : w.cell? ⟨b, q, none⟩ = some u := by
  unfold Vw.cell at h
  split at h
  · rename_i cs E fz hb
    simp [World.cell?, hV _ _ hb, h]
  · cases h
theorem Vw.cell_le {V V' : Vw} (hV : V.le V') {b q : Nat} {u : Value} (h : V.cell b q = some u) : V'.cell b q = some u := by
  unfold Vw.cell at *
  split at h
  · rename_i cs E fz hb
    simp [hV _ _ hb, h]
  · cases h
theorem Vw.cell_of {V : Vw} {b q : Nat} {u : Value} {l : List Value} {E : TypeId} {fz : Nat × Nat} (h : V b = some (.cells l.toArray E fz)) (hu : l[q]? = some u) : V.cell b q = some u := by
  simp [Vw.cell, h, hu]
def SlV (V : Vw) (size : Nat) (v : Value) (n : Nat) (xs : List Value) : Prop :=
  xs.length = n * size ∧ ((v = .slice none 0 0 ∧ n = 0) ∨ ∃ b p cap, v = .slice (some ⟨b, p, none⟩) n cap ∧ n ≤ cap ∧ ∀ j u, xs[j]? = some u → V.cell b (p + j) = some u)
theorem SlV.mono {V V' : Vw} {size n : Nat} {v : Value} {xs : List Value} (hV : V.le V') (h : SlV V size v n xs) : SlV V' size v n xs := by
  refine ⟨h.1, h.2.imp id ?_⟩
  rintro ⟨b, p, cap, h1, h2, h3⟩
  exact ⟨b, p, cap, h1, h2, fun j u hu => Vw.cell_le hV (h3 j u hu)⟩
theorem SlV.nil (V : Vw) (size : Nat) : SlV V size (.slice none 0 0) 0 [] := ⟨by simp, .inl ⟨rfl, rfl⟩⟩
theorem SlV.cells {V : Vw} {size n : Nat} {xs sp : List Value} {b cap : Nat} {E : TypeId} {fz : Nat × Nat} (h : V b = some (.cells (xs ++ sp).toArray E fz)) (hl : xs.length = n * size) (hc : n ≤ cap) : SlV V size (.slice (some ⟨b, 0, none⟩) n cap) n xs := by
  refine ⟨hl, .inr ⟨b, 0, cap, rfl, hc, fun j u hu => ?_⟩⟩
  rw [Nat.zero_add]
  refine Vw.cell_of h ?_
  have : j < xs.length := by
    rcases Nat.lt_or_ge j xs.length with h' | h'
    · exact h'
    · simp [List.getElem?_eq_none h'] at hu
  rw [List.getElem?_append_left this]
  exact hu
theorem SlV.form {V : Vw} {size n : Nat} {v : Value} {xs : List Value} (h : SlV V size v n xs) :
    ∃ a cap, v = .slice a n cap ∧ n ≤ cap ∧ (0 < n → ∃ b p, a = some ⟨b, p, none⟩ ∧ ∀ j u, xs[j]? = some u → V.cell b (p + j) = some u) := by
  rcases h.2 with ⟨h1, h2⟩ | ⟨b, p, cap, h1, h2, h3⟩
  · subst h2; exact ⟨none, 0, h1, Nat.le_refl _, fun h => absurd h (by omega)⟩
  · exact ⟨some ⟨b, p, none⟩, cap, h1, h2, fun _ => ⟨b, p, rfl, h3⟩⟩
theorem SlV.src {P : Program} {w : World} {V : Vw} {size n : Nat} {v : Value} {xs : List Value} (h : SlV V size v n xs) (hV : V.In w) : Src P w size v n xs := by
  rcases h.2 with ⟨h1, h2⟩ | ⟨b, p, cap, h1, h2, h3⟩
  · subst h1 h2
    have : xs = [] := List.eq_nil_of_length_eq_zero (by simpa using h.1)
    subst this
    exact src_nil
  · subst h1
    exact src_slice h.1 fun j u hu => Vw.cell_in hV (h3 j u hu)
theorem Sl.give {E : TypeId} {size n : Nat} {w0 w : World} {V0 V : Vw} {L : List (Nat × Obj)} {v : Value} {xs : List Value} (h : Sl E size ⟨w0, V0, V⟩ w L v n xs) : ∃ V', V.le V' ∧ SlV V' size v n xs ∧ St ⟨w0, V0, V'⟩ w L := by
  rcases h.2 with ⟨rfl, rfl, hs⟩ | ⟨g, cap, sp, rfl, hl, hnc, hcm, hg, hs⟩
  · exact ⟨V, V.le_refl, ⟨h.1, .inl ⟨rfl, rfl⟩⟩, hs⟩
  · obtain ⟨V', h1, h2, h3⟩ := hs.give hg
    exact ⟨V', h1, SlV.cells h2 h.1 hnc, h3⟩
theorem Sl.size {E : TypeId} {size n : Nat} {w0 : Base} {w : World} {L : List (Nat × Obj)} {v : Value} {xs : List Value} (h : Sl E size w0 w L v n xs) : ∃ a cap, v = .slice a n cap := by
  rcases h.2 with ⟨rfl, rfl, hs⟩ | ⟨g, cap, sp, rfl, hl, hnc, hcm, hg, hs⟩
  · exact ⟨_, _, rfl⟩
  · exact ⟨_, _, rfl⟩
def Rows {α : Type} (size : Nat) (R : α → List Value → Prop) : List α → List Value → Prop
  | [], xs => xs = []
  | a :: as, xs => ∃ c rest, xs = c ++ rest ∧ c.length = size ∧ R a c ∧ Rows size R as rest
theorem Rows.len {α : Type} {size : Nat} {R : α → List Value → Prop} : ∀ {as : List α} {xs : List Value}, Rows size R as xs → xs.length = as.length * size
  | [], xs, h => by simp [Rows] at h; simp [h]
  | a :: as, xs, h => by
    obtain ⟨c, rest, rfl, h1, _, h2⟩ := h
    have := h2.len
    simp [h1, this, Nat.add_mul]; omega
theorem Rows.mono {α : Type} {size : Nat} {R R' : α → List Value → Prop} (hR : ∀ a c, R a c → R' a c) : ∀ {as : List α} {xs : List Value}, Rows size R as xs → Rows size R' as xs
  | [], xs, h => h
  | a :: as, xs, h => by
    obtain ⟨c, rest, rfl, h1, h3, h2⟩ := h
    exact ⟨c, rest, rfl, h1, hR _ _ h3, h2.mono hR⟩
theorem Rows.app {α : Type} {size : Nat} {R : α → List Value → Prop} {bs : List α} {ys : List Value} (k : Rows size R bs ys) : ∀ {as : List α} {xs : List Value}, Rows size R as xs → Rows size R (as ++ bs) (xs ++ ys)
  | [], xs, h => by simp [Rows] at h; simpa [h] using k
  | a :: as, xs, h => by
    obtain ⟨c, rest, rfl, h1, h3, h2⟩ := h
    exact ⟨c, rest ++ ys, by simp, h1, h3, Rows.app k h2⟩
theorem Rows.one {α : Type} {size : Nat} {R : α → List Value → Prop} {a : α} {c : List Value} (h : R a c) (hc : c.length = size) : Rows size R [a] c := ⟨c, [], by simp, hc, h, rfl⟩
theorem Rows.snoc {α : Type} {size : Nat} {R : α → List Value → Prop} {as : List α} {xs : List Value} {a : α} {c : List Value} (h : Rows size R as xs) (ha : R a c) (hc : c.length = size) : Rows size R (as ++ [a]) (xs ++ c) := Rows.app (Rows.one ha hc) h
theorem Rows.at {α : Type} {size : Nat} {R : α → List Value → Prop} : ∀ {as : List α} {xs : List Value}, Rows size R as xs → ∀ {i : Nat} {a : α}, as[i]? = some a → ∃ c, R a c ∧ c.length = size ∧ (xs.drop (i * size)).take size = c
  | [], xs, h, i, a, hi => by simp at hi
  | b :: as, xs, h, i, a, hi => by
    obtain ⟨c, rest, rfl, h1, h3, h2⟩ := h
    cases i with
    | zero =>
      simp at hi; subst hi
      exact ⟨c, h3, h1, by simp [← h1]⟩
    | succ i =>
      simp at hi
      obtain ⟨c', k1, k2, k3⟩ := h2.at hi
      refine ⟨c', k1, k2, ?_⟩
      have : (i + 1) * size = c.length + i * size := by rw [h1, Nat.add_mul]; omega
      rw [this, ← List.drop_drop, List.drop_left]
      exact k3
def eA (u : UInt8) : Value := .int .u8 u.toNat
def eB (l : List UInt8) (i : Nat) : Nat := (l.getD i 0).toNat
theorem cU (l : List UInt8) (i : Nat) : eB l i < 256 := UInt8.toNat_lt _
def RB (V : Vw) (v : Value) (l : List UInt8) : Prop := SlV V 1 v l.length (l.map eA)
theorem RB.mono {V V' : Vw} {v : Value} {l : List UInt8} (hV : V.le V') (h : RB V v l) : RB V' v l := SlV.mono hV h
theorem RB.nil (V : Vw) : RB V (.slice none 0 0) [] := SlV.nil V 1
theorem RB.oneCell {V : Vw} {v : Value} {l : List UInt8} (h : RB V v l) : v.oneCell' = true := by
  obtain ⟨a, cap, rfl, _⟩ := SlV.form h; rfl
theorem RB.form {V : Vw} {v : Value} {l : List UInt8} (h : RB V v l) :
    ∃ a cap, v = .slice a l.length cap ∧ l.length ≤ cap ∧ (0 < l.length → ∃ b p, a = some ⟨b, p, none⟩ ∧ ∀ i, i < l.length → V.cell b (p + i) = some (.int .u8 (eB l i))) := by
  obtain ⟨a, cap, h1, h2, h3⟩ := SlV.form h
  refine ⟨a, cap, h1, h2, fun h0 => ?_⟩
  obtain ⟨b, p, h4, h5⟩ := h3 h0
  refine ⟨b, p, h4, fun i hi => h5 i _ ?_⟩
  simp [eA, eB, List.getD, List.getElem?_eq_getElem hi]
theorem ldb {V : Vw} {w : World} {l : List UInt8} {b p : Nat} (hV : V.In w) (hc : ∀ i, i < l.length → V.cell b (p + i) = some (.int .u8 (eB l i))) {i : Int} (n : Nat) (hn : i = n) (hl : n < l.length) :
    w.cell? ⟨b, p + i.toNat * 1, none⟩ = some (.int .u8 (eB l n)) := by
  subst hn
  rw [Nat.mul_one, Int.toNat_natCast]
  exact Vw.cell_in hV (hc n hl)
theorem ofInt_toNat {n a : Nat} (h : a < 2 ^ n) : (BitVec.ofInt n (a : Int)).toNat = a := by
  rw [BitVec.toNat_ofInt, ← Int.natCast_emod, Int.toNat_natCast, Nat.mod_eq_of_lt h]
theorem bv_and {n a b : Nat} (ha : a < 2 ^ n) (hb : b < 2 ^ n) : (BitVec.ofInt n (a : Int) &&& BitVec.ofInt n (b : Int)).toNat = a &&& b := by rw [BitVec.toNat_and, ofInt_toNat ha, ofInt_toNat hb]
theorem bv_or {n a b : Nat} (ha : a < 2 ^ n) (hb : b < 2 ^ n) : (BitVec.ofInt n (a : Int) ||| BitVec.ofInt n (b : Int)).toNat = a ||| b := by rw [BitVec.toNat_or, ofInt_toNat ha, ofInt_toNat hb]
theorem bv_xor {n a b : Nat} (ha : a < 2 ^ n) (hb : b < 2 ^ n) : (BitVec.ofInt n (a : Int) ^^^ BitVec.ofInt n (b : Int)).toNat = a ^^^ b := by rw [BitVec.toNat_xor, ofInt_toNat ha, ofInt_toNat hb]
theorem u16and {a b : Nat} (ha : a < 65536) (hb : b < 65536) : bitsOf .and .u16 (a : Int) (b : Int) = ((a &&& b : Nat) : Int) := by
  have h : a &&& b < 65536 := Nat.lt_of_le_of_lt Nat.and_le_left ha
  have e := bv_and (n := 16) (a := a) (b := b) ha hb
  show IntKind.u16.wrap ((BitVec.ofInt 16 (a : Int) &&& BitVec.ofInt 16 (b : Int)).toNat : Int) = _
  rw [e, u16m]; omega
theorem u16or {a b : Nat} (ha : a < 65536) (hb : b < 65536) : bitsOf .or .u16 (a : Int) (b : Int) = ((a ||| b : Nat) : Int) := by
  have h : a ||| b < 2 ^ 16 := Nat.or_lt_two_pow (by omega) (by omega)
  have e := bv_or (n := 16) (a := a) (b := b) ha hb
  show IntKind.u16.wrap ((BitVec.ofInt 16 (a : Int) ||| BitVec.ofInt 16 (b : Int)).toNat : Int) = _
  rw [e, u16m]; omega
theorem u32or {a b : Nat} (ha : a < 4294967296) (hb : b < 4294967296) : bitsOf .or .u32 (a : Int) (b : Int) = ((a ||| b : Nat) : Int) := by
  have h : a ||| b < 2 ^ 32 := Nat.or_lt_two_pow (by omega) (by omega)
  have e := bv_or (n := 32) (a := a) (b := b) ha hb
  show IntKind.u32.wrap ((BitVec.ofInt 32 (a : Int) ||| BitVec.ofInt 32 (b : Int)).toNat : Int) = _
  rw [e, u32m]; omega
theorem i64and {a b : Nat} (ha : a < 65536) (hb : b < 65536) : bitsOf .and .i64 (a : Int) (b : Int) = ((a &&& b : Nat) : Int) := by
  have h : a &&& b < 65536 := Nat.lt_of_le_of_lt Nat.and_le_left ha
  have e := bv_and (n := 64) (a := a) (b := b) (by omega) (by omega)
  show IntKind.i64.wrap ((BitVec.ofInt 64 (a : Int) &&& BitVec.ofInt 64 (b : Int)).toNat : Int) = _
  rw [e, i64w (by omega)]
theorem i64or {a b : Nat} (ha : a < 65536) (hb : b < 65536) : bitsOf .or .i64 (a : Int) (b : Int) = ((a ||| b : Nat) : Int) := by
  have h : a ||| b < 2 ^ 16 := Nat.or_lt_two_pow (by omega) (by omega)
  have e := bv_or (n := 64) (a := a) (b := b) (by omega) (by omega)
  show IntKind.i64.wrap ((BitVec.ofInt 64 (a : Int) ||| BitVec.ofInt 64 (b : Int)).toNat : Int) = _
  rw [e, i64w (by omega)]
theorem i64xor {a b : Nat} (ha : a < 65536) (hb : b < 65536) : bitsOf .xor .i64 (a : Int) (b : Int) = ((a ^^^ b : Nat) : Int) := by
  have h : a ^^^ b < 2 ^ 16 := Nat.xor_lt_two_pow (by omega) (by omega)
  have e := bv_xor (n := 64) (a := a) (b := b) (by omega) (by omega)
  show IntKind.i64.wrap ((BitVec.ofInt 64 (a : Int) ^^^ BitVec.ofInt 64 (b : Int)).toNat : Int) = _
  rw [e, i64w (by omega)]
theorem or_hi (a b : Nat) (hb : b < 256) : a * 256 ||| b = a * 256 + b := by
  have := Nat.shiftLeft_add_eq_or_of_lt (i := 8) (b := b) hb a
  rw [Nat.shiftLeft_eq] at this
  exact this.symm
theorem or_hi16 (a b : Nat) (hb : b < 65536) : a * 65536 ||| b = a * 65536 + b := by
  have := Nat.shiftLeft_add_eq_or_of_lt (i := 16) (b := b) hb a
  rw [Nat.shiftLeft_eq] at this
  exact this.symm
theorem or_hi24 (a b : Nat) (hb : b < 16777216) : a * 16777216 ||| b = a * 16777216 + b := by
  have := Nat.shiftLeft_add_eq_or_of_lt (i := 24) (b := b) hb a
  rw [Nat.shiftLeft_eq] at this
  exact this.symm
theorem two_eq {a b : Nat} (ha : a < 256) (hb : b < 256) :
    bitsOf .or .u16 (IntKind.u16.wrap (IntKind.u16.wrap (a : Int) * 2 ^ (min (8 : Int).toNat IntKind.u16.bits))) (IntKind.u16.wrap (b : Int)) = ((a * 256 + b : Nat) : Int) := by
  have e1 : IntKind.u16.wrap (IntKind.u16.wrap (a : Int) * 2 ^ (min (8 : Int).toNat IntKind.u16.bits)) = ((a * 256 : Nat) : Int) := by
    have : (2 : Int) ^ (min (8 : Int).toNat IntKind.u16.bits) = 256 := by decide
    rw [this, u16m, u16m]; omega
  have e2 : IntKind.u16.wrap (b : Int) = ((b : Nat) : Int) := by rw [u16m]; omega
  rw [e1, e2, u16or (by omega) (by omega), or_hi _ _ hb]
theorem four_eq {a b c d : Nat} (ha : a < 256) (hb : b < 256) (hc : c < 256) (hd : d < 256) :
    bitsOf .or .u32 (bitsOf .or .u32 (bitsOf .or .u32 (IntKind.u32.wrap (IntKind.u32.wrap (a : Int) * 2 ^ (min (24 : Int).toNat IntKind.u32.bits))) (IntKind.u32.wrap (IntKind.u32.wrap (b : Int) * 2 ^ (min (16 : Int).toNat IntKind.u32.bits))))
      (IntKind.u32.wrap (IntKind.u32.wrap (c : Int) * 2 ^ (min (8 : Int).toNat IntKind.u32.bits)))) (IntKind.u32.wrap (d : Int)) = ((((a * 256 + b) * 256 + c) * 256 + d : Nat) : Int) := by
  have e1 : IntKind.u32.wrap (IntKind.u32.wrap (a : Int) * 2 ^ (min (24 : Int).toNat IntKind.u32.bits)) = ((a * 16777216 : Nat) : Int) := by
    have : (2 : Int) ^ (min (24 : Int).toNat IntKind.u32.bits) = 16777216 := by decide
    rw [this, u32m, u32m]; omega
  have e2 : IntKind.u32.wrap (IntKind.u32.wrap (b : Int) * 2 ^ (min (16 : Int).toNat IntKind.u32.bits)) = ((b * 65536 : Nat) : Int) := by
    have : (2 : Int) ^ (min (16 : Int).toNat IntKind.u32.bits) = 65536 := by decide
    rw [this, u32m, u32m]; omega
  have e3 : IntKind.u32.wrap (IntKind.u32.wrap (c : Int) * 2 ^ (min (8 : Int).toNat IntKind.u32.bits)) = ((c * 256 : Nat) : Int) := by
    have : (2 : Int) ^ (min (8 : Int).toNat IntKind.u32.bits) = 256 := by decide
    rw [this, u32m, u32m]; omega
  have e4 : IntKind.u32.wrap (d : Int) = ((d : Nat) : Int) := by rw [u32m]; omega
  have s1 : bitsOf .or .u32 ((a * 16777216 : Nat) : Int) ((b * 65536 : Nat) : Int) = (((a * 256 + b) * 65536 : Nat) : Int) := by
    clear e1 e2 e3 e4
    rw [u32or (by omega) (by omega), or_hi24 _ _ (by omega)]; omega
  have s2 : bitsOf .or .u32 (((a * 256 + b) * 65536 : Nat) : Int) ((c * 256 : Nat) : Int) = ((((a * 256 + b) * 256 + c) * 256 : Nat) : Int) := by
    clear e1 e2 e3 e4 s1
    rw [u32or (by omega) (by omega), or_hi16 _ _ (by omega)]; omega
  have s3 : bitsOf .or .u32 ((((a * 256 + b) * 256 + c) * 256 : Nat) : Int) (d : Int) = ((((a * 256 + b) * 256 + c) * 256 + d : Nat) : Int) := by
    clear e1 e2 e3 e4 s1 s2
    rw [u32or (by omega) (by omega), or_hi _ _ hd]
  rw [e1, e2, e3, e4, s1, s2, s3]
theorem fV {a : Int} {c : Nat} (h : a = c) (hc : c ≤ 9223372036854775807) : IntKind.i64.wrap a = (c : Int) := by subst h; exact i64w (by omega)
theorem u16c {a : Int} {c : Nat} (h : a = c) (hc : c ≤ 65535) : IntKind.u16.wrap a = (c : Int) := by subst h; exact u16w (by omega)
theorem u8c {a : Int} {c : Nat} (h : a = c) (hc : c ≤ 255) : IntKind.u8.wrap a = (c : Int) := by subst h; exact u8w (by omega)
theorem u32c {a : Int} {c : Nat} (h : a = c) (hc : c ≤ 4294967295) : IntKind.u32.wrap a = (c : Int) := by subst h; exact u32w (by omega)
theorem mask0 : ∀ c, c < 256 → (c &&& 192 = 0 ↔ c < 64) := by decide +kernel
theorem mask3 : ∀ c, c < 256 → (c &&& 192 = 192 ↔ 192 ≤ c) := by decide +kernel
theorem mask3x : ∀ c, c < 256 → 192 ≤ c → c ^^^ 192 = c - 192 := by decide +kernel
end Go.Proofs.YtgpfjlfkaoffeaaGreatDoor
namespace Go.Proofs.YtgpfjlfkaoffeaaGreatDoor
open Go
def w16 (b : List UInt8) (i : Nat) : Nat := eB b i * 256 + eB b (i + 1)
def w32 (b : List UInt8) (i : Nat) : Nat := ((eB b i * 256 + eB b (i + 1)) * 256 + eB b (i + 2)) * 256 + eB b (i + 3)
theorem w16_lt (b : List UInt8) (i : Nat) : w16 b i < 65536 := by
  have h1 := cU b i; have h2 := cU b (i + 1); unfold w16; omega
theorem w32_lt (b : List UInt8) (i : Nat) : w32 b i < 4294967296 := by
  have h1 := cU b i; have h2 := cU b (i + 1); have h3 := cU b (i + 2); have h4 := cU b (i + 3); unfold w32; omega
def seg (b : List UInt8) (i n : Nat) : List UInt8 := (b.drop i).take n
theorem seg_len {b : List UInt8} {i n : Nat} (h : i + n ≤ b.length) : (seg b i n).length = n := by unfold seg; simp; omega
def rd16 (b : List UInt8) (i : Nat) : Option Nat := if i + 2 ≤ b.length then some (w16 b i) else none
def rd32 (b : List UInt8) (i : Nat) : Option Nat := if i + 4 ≤ b.length then some (w32 b i) else none
def rdBytes (b : List UInt8) (i n : Nat) : Option (List UInt8) := if i + n ≤ b.length then some (seg b i n) else none
def orDot : List UInt8 → List UInt8
  | [] => [46]
  | x :: r => x :: r
theorem orDot_len (l : List UInt8) : 0 < (orDot l).length ∧ l.length ≤ (orDot l).length := by cases l <;> simp [orDot]
def fS (b : List UInt8) (i : Nat) (out : List UInt8) (jumps e : Nat) : Option (List UInt8 × Nat) :=
  if h : i < b.length then
    if eB b i = 0 then
      if (orDot out).length > 254 then none else some (orDot out, if jumps = 0 then i + 1 else e)
    else if hc : eB b i < 64 then
      if hl : i + 1 + eB b i ≤ b.length then
        if (seg b (i + 1) (eB b i)).contains 46 then none
        else fS b (i + 1 + eB b i) (out ++ seg b (i + 1) (eB b i) ++ [46]) jumps e
      else none
    else if 192 ≤ eB b i then
      if i + 1 < b.length then
        if hj : jumps < 10 then fS b ((eB b i - 192) * 256 + eB b (i + 1)) out (jumps + 1) (if jumps = 0 then i + 2 else e)
        else none
      else none
    else none
  else none
termination_by (11 - jumps) * (b.length + 2) + (b.length + 1 - i)
decreasing_by
  · omega
  · have : (11 - jumps) = (11 - (jumps + 1)) + 1 := by omega
    rw [this, Nat.add_mul]
    omega
def name (b : List UInt8) (i : Nat) : Option (List UInt8 × Nat) := fS b i [] 0 0
theorem nameS_long (b : List UInt8) (i : Nat) (out : List UInt8) (jumps e : Nat) (h : 254 < out.length) : fS b i out jumps e = none := by
  fun_induction fS b i out jumps e with
  | case1 i out jumps e hi h0 h1 => rfl
  | case2 i out jumps e hi h0 h1 =>
    have := orDot_len out
    omega
  | case4 i out jumps e hi h0 hc hl hd ih => exact ih (by simp; omega)
  | case6 i out jumps e hi h0 hc hc2 hl hj ih => exact ih h
  | _ => rfl
theorem nameS_some {b : List UInt8} {i : Nat} {out : List UInt8} {jumps e : Nat} {o : List UInt8} {e' : Nat} (h : fS b i out jumps e = some (o, e')) (he : 0 < jumps → e ≤ b.length) :
    0 < o.length ∧ o.length ≤ 254 ∧ e' ≤ b.length := by
  fun_induction fS b i out jumps e with
  | case1 i out jumps e hi h0 h1 => cases h
  | case2 i out jumps e hi h0 h1 =>
    simp only [Option.some.injEq, Prod.mk.injEq] at h
    obtain ⟨rfl, rfl⟩ := h
    refine ⟨(orDot_len out).1, by omega, ?_⟩
    split
    · omega
    · exact he (by omega)
  | case4 i out jumps e hi h0 hc hl hd ih => exact ih h he
  | case6 i out jumps e hi h0 hc hc2 hl hj ih => exact ih h (fun _ => by split <;> first | omega | exact he (by omega))
  | _ => cases h
theorem name_some {b : List UInt8} {i : Nat} {o : List UInt8} {e : Nat} (h : name b i = some (o, e)) : 0 < o.length ∧ o.length ≤ 254 ∧ e ≤ b.length := nameS_some h (by omega)
def pass (b : List UInt8) (i : Nat) : Option Nat :=
  if h : i < b.length then
    if eB b i = 0 then some (i + 1)
    else if eB b i < 64 then
      if i + 1 + eB b i ≤ b.length then pass b (i + 1 + eB b i) else none
    else if 192 ≤ eB b i then some (i + 2)
    else none
  else none
termination_by b.length - i
decreasing_by omega
structure fU where
  key : Nat
  data : List UInt8
structure fY where
  name : List UInt8 := []
  type : Nat := 0
  cls : Nat := 0
  ttl : Nat := 0
  length : Nat := 0
  kind : Nat := 0
  data : List UInt8 := []
  host : List UInt8 := []
  box : List UInt8 := []
  n1 : Nat := 0
  n2 : Nat := 0
  n3 : Nat := 0
  n4 : Nat := 0
  n5 : Nat := 0
  texts : List (List UInt8) := []
  pairs : List fU := []
structure PAsk where
  name : List UInt8
  type : Nat
  cls : Nat
structure PSeen where
  fault : Nat := 0
  id : Nat := 0
  bits : Nat := 0
  asks : List PAsk := []
  recs : List fY := []
structure PMsg where
  id : Nat := 0
  bits : Nat := 0
  asks : List PAsk := []
  answers : List fY := []
  authorities : List fY := []
  additionals : List fY := []
def textsS (b : List UInt8) (i e : Nat) (acc : List (List UInt8)) : Option (List (List UInt8)) :=
  if _h : i < e then
    if i < b.length ∧ i + 1 + eB b i ≤ b.length ∧ i + 1 + eB b i ≤ e then textsS b (i + 1 + eB b i) e (acc ++ [seg b (i + 1) (eB b i)])
    else none
  else some acc
termination_by e - i
decreasing_by omega
def optsS (b : List UInt8) (i e : Nat) (acc : List fU) : Option (List fU) :=
  if _h : i < e then
    if i + 4 ≤ b.length ∧ i + 4 + w16 b (i + 2) ≤ b.length then optsS b (i + 4 + w16 b (i + 2)) e (acc ++ [⟨w16 b i, seg b (i + 4) (w16 b (i + 2))⟩])
    else none
  else some acc
termination_by e - i
decreasing_by omega
def parsS (b : List UInt8) (i e : Nat) (acc : List fU) : Option (List fU) :=
  if _h : i < e then
    if i + 4 ≤ b.length ∧ i + 4 + w16 b (i + 2) ≤ b.length ∧ ¬ (acc ≠ [] ∧ w16 b i = 0) then parsS b (i + 4 + w16 b (i + 2)) e (acc ++ [⟨w16 b i, seg b (i + 4) (w16 b (i + 2))⟩])
    else none
  else if i = e then some acc else none
termination_by e - i
decreasing_by omega
theorem parsS_over {b : List UInt8} {i e : Nat} {acc : List fU} (h : e < i) : parsS b i e acc = none := by
  rw [parsS, dif_neg (by omega), if_neg (by omega)]
def eE (t : Nat) : Nat :=
  if t = 1 then 1 else if t = 2 then 2 else if t = 5 then 3 else if t = 6 then 4 else if t = 12 then 5 else if t = 15 then 6 else if t = 16 then 7 else if t = 28 then 8
  else if t = 33 then 9 else if t = 41 then 10 else if t = 64 then 11 else if t = 65 then 12 else 13
def body (b : List UInt8) (i kind len : Nat) : Option fY :=
  match kind with
  | 1 => (rdBytes b i 4).map fun d => { kind := 1, data := d }
  | 8 => (rdBytes b i 16).map fun d => { kind := 8, data := d }
  | 2 => (name b i).map fun h => { kind := 2, host := h.1 }
  | 3 => (name b i).map fun h => { kind := 3, host := h.1 }
  | 5 => (name b i).map fun h => { kind := 5, host := h.1 }
  | 6 => (rd16 b i).bind fun n1 => (name b (i + 2)).map fun h => { kind := 6, n1 := n1, host := h.1 }
  | 9 => (rd16 b i).bind fun n1 => (rd16 b (i + 2)).bind fun n2 => (rd16 b (i + 4)).bind fun n3 => (name b (i + 6)).map fun h => { kind := 9, n1 := n1, n2 := n2, n3 := n3, host := h.1 }
  | 4 => (name b i).bind fun h => (name b h.2).bind fun x => (rd32 b x.2).bind fun n1 => (rd32 b (x.2 + 4)).bind fun n2 => (rd32 b (x.2 + 8)).bind fun n3 => (rd32 b (x.2 + 12)).bind fun n4 =>
      (rd32 b (x.2 + 16)).map fun n5 => { kind := 4, host := h.1, box := x.1, n1 := n1, n2 := n2, n3 := n3, n4 := n4, n5 := n5 }
  | 7 => (textsS b i (i + len) []).map fun l => { kind := 7, texts := l }
  | 10 => (optsS b i (i + len) []).map fun l => { kind := 10, pairs := l }
  | 11 => (rd16 b i).bind fun n1 => (name b (i + 2)).bind fun h => (parsS b h.2 (i + len) []).map fun l => { kind := 11, n1 := n1, host := h.1, pairs := l }
  | 12 => (rd16 b i).bind fun n1 => (name b (i + 2)).bind fun h => (parsS b h.2 (i + len) []).map fun l => { kind := 12, n1 := n1, host := h.1, pairs := l }
  | k => (rdBytes b i len).map fun d => { kind := k, data := d }
def ask (b : List UInt8) (i : Nat) : Option (PAsk × Nat) :=
  (name b i).bind fun h => (rd16 b h.2).bind fun t => (rd16 b (h.2 + 2)).map fun c => (⟨h.1, t, c⟩, h.2 + 4)
def header (b : List UInt8) (i : Nat) : Option (fY × Nat) :=
  (name b i).bind fun h => (rd16 b h.2).bind fun t => (rd16 b (h.2 + 2)).bind fun c => (rd32 b (h.2 + 4)).bind fun ttl => (rd16 b (h.2 + 8)).map fun n =>
    ({ name := h.1, type := t, cls := c, ttl := ttl, length := n }, h.2 + 10)
def skipRec (b : List UInt8) (i : Nat) : Option Nat :=
  (pass b i).bind fun e => if e + 10 ≤ b.length then if e + 10 + w16 b (e + 8) ≤ b.length then some (e + 10 + w16 b (e + 8)) else none else none
def skipAsk (b : List UInt8) (i : Nat) : Option Nat :=
  (pass b i).bind fun e => if e + 4 ≤ b.length then some (e + 4) else none
def whole (r h : fY) : fY := { r with name := h.name, type := h.type, cls := h.cls, ttl := h.ttl, length := h.length }
inductive EK where
  | ok | early | done | other
  deriving DecidableEq
def EK.num : EK → Nat
  | .ok => 0
  | .early => 1
  | .done => 2
  | .other => 3
structure PM where
  sec : Nat := 0
  index : Nat := 0
  at_ : Nat := 0
  valid : Bool := false
  headAt : Nat := 0
  htype : Nat := 0
  hlen : Nat := 0
def count (b : List UInt8) (s : Nat) : Nat := w16 b (2 + 2 * s)
section
variable (b : List UInt8)
def fH (m : PM) (s : Nat) : EK × PM :=
  if m.sec < s then (.early, m) else if s < m.sec then (.done, m)
  else if m.index = count b s then (.done, { m with valid := false, index := 0, sec := m.sec + 1 }) else (.ok, { m with valid := false })
def askM (m : PM) : EK × Option PAsk × PM :=
  match fH b m 1 with
  | (.ok, m1) => match ask b m1.at_ with
    | some (a, e) => (.ok, some a, { m1 with at_ := e, index := m1.index + 1 })
    | none => (.other, none, m1)
  | (k, m1) => (k, none, m1)
def passAskM (m : PM) : EK × PM :=
  match fH b m 1 with
  | (.ok, m1) => match skipAsk b m1.at_ with
    | some e => (.ok, { m1 with at_ := e, index := m1.index + 1 })
    | none => (.other, m1)
  | (k, m1) => (k, m1)
def beginM (m : PM) (s : Nat) : EK × Option fY × PM :=
  match fH b (if m.valid then { m with at_ := m.headAt } else m) s with
  | (.ok, m1) => match header b m1.at_ with
    | some (r, e) => (.ok, some r, { m1 with valid := true, headAt := m1.at_, htype := r.type, hlen := r.length, at_ := e })
    | none => (.other, none, m1)
  | (k, m1) => (k, none, m1)
def recordM (m : PM) (s : Nat) : EK × Option fY × PM :=
  match beginM b m s with
  | (.ok, some h, m1) => match body b m1.at_ (eE h.type) h.length with
    | some r => (.ok, some (whole r h), { m1 with valid := false, at_ := m1.at_ + h.length, index := m1.index + 1 })
    | none => (.other, none, { m1 with valid := false })
  | (k, _, m1) => (k, none, m1)
def passM (m : PM) (s : Nat) : EK × PM :=
  if m.valid = true ∧ m.sec = s then
    if m.at_ + m.hlen ≤ b.length then (.ok, { m with at_ := m.at_ + m.hlen, valid := false, index := m.index + 1 }) else (.other, m)
  else match fH b m s with
    | (.ok, m1) => match skipRec b m1.at_ with
      | some e => (.ok, { m1 with at_ := e, index := m1.index + 1 })
      | none => (.other, m1)
    | (k, m1) => (k, m1)
def bodyM (m : PM) (kind : Nat) : EK × Option fY × PM :=
  if m.valid = false ∨ (kind ≠ 13 ∧ eE m.htype ≠ kind) then (.early, none, m)
  else match body b m.at_ kind m.hlen with
    | some r => (.ok, some (if kind = 13 then { r with type := m.htype } else r), { m with at_ := m.at_ + m.hlen, valid := false, index := m.index + 1 })
    | none => (.other, none, m)
def fQ : Nat → PM → List PAsk → EK × List PAsk × PM
  | 0, m, acc => (.ok, acc, m)
  | n + 1, m, acc => match askM b m with
    | (.ok, some a, m1) => fQ n m1 (acc ++ [a])
    | (.ok, none, m1) => (.other, [], m1)
    | (.done, _, m1) => (.ok, acc, m1)
    | (k, _, m1) => (k, [], m1)
def eR (s : Nat) : Nat → PM → List fY → EK × List fY × PM
  | 0, m, acc => (.ok, acc, m)
  | n + 1, m, acc => match recordM b m s with
    | (.ok, some a, m1) => eR s n m1 (acc ++ [a])
    | (.ok, none, m1) => (.other, [], m1)
    | (.done, _, m1) => (.ok, acc, m1)
    | (k, _, m1) => (k, [], m1)
def allPassAsk : Nat → PM → EK × PM
  | 0, m => (.ok, m)
  | n + 1, m => match passAskM b m with
    | (.ok, m1) => allPassAsk n m1
    | (.done, m1) => (.ok, m1)
    | (k, m1) => (k, m1)
def allPass (s : Nat) : Nat → PM → EK × PM
  | 0, m => (.ok, m)
  | n + 1, m => match passM b m s with
    | (.ok, m1) => allPass s n m1
    | (.done, m1) => (.ok, m1)
    | (k, m1) => (k, m1)
end
def fuel : Nat := 65537
def onlyRec (k : EK) (r : Option fY) : PSeen := { fault := k.num, recs := match k, r with | .ok, some r => [r] | _, _ => [] }
section
variable (b : List UInt8)
def startM : PSeen × PM :=
  if b.length < 12 then ({ fault := 3 }, {}) else ({ id := w16 b 0, bits := w16 b 2 }, { sec := 1, at_ := 12 })
def questionM (m : PM) (step : Nat) : PSeen × PM :=
  if step = 2 then
    let r := askM b m
    ({ fault := r.1.num, asks := match r.1, r.2.1 with | .ok, some a => [a] | _, _ => [] }, r.2.2)
  else if step = 3 then
    let r := fQ b fuel m []
    ({ fault := r.1.num, asks := if r.1 = .ok then r.2.1 else [] }, r.2.2)
  else if step = 4 then
    let r := passAskM b m
    ({ fault := r.1.num }, r.2)
  else
    let r := allPassAsk b fuel m
    ({ fault := r.1.num }, r.2)
def partM (m : PM) (s step : Nat) : PSeen × PM :=
  if step = 0 then
    let r := beginM b m s
    (onlyRec r.1 r.2.1, r.2.2)
  else if step = 1 then
    let r := recordM b m s
    (onlyRec r.1 r.2.1, r.2.2)
  else if step = 2 then
    let r := eR b s fuel m []
    ({ fault := r.1.num, recs := if r.1 = .ok then r.2.1 else [] }, r.2.2)
  else if step = 3 then
    let r := passM b m s
    ({ fault := r.1.num }, r.2)
  else
    let r := allPass b s fuel m
    ({ fault := r.1.num }, r.2)
def stepM (m kept : PM) (step : Int) : PSeen × PM × PM :=
  if step = 1 then let r := startM b; (r.1, r.2, kept)
  else if 2 ≤ step ∧ step ≤ 5 then let r := questionM b m step.toNat; (r.1, r.2, kept)
  else if 6 ≤ step ∧ step ≤ 20 then let r := partM b m (2 + (step.toNat - 6) / 5) ((step.toNat - 6) % 5); (r.1, r.2, kept)
  else if 20 < step ∧ step ≤ 33 then let r := bodyM b m (step.toNat - 20); (onlyRec r.1 r.2.1, r.2.2, kept)
  else if step = 40 then ({}, m, m)
  else if step = 41 then ({}, kept, kept)
  else ({ fault := 3 }, m, kept)
def runM : PM → PM → List Int → List PSeen
  | _, _, [] => []
  | m, kept, s :: r => let x := stepM b m kept s; x.1 :: runM x.2.1 x.2.2 r
def parseM (steps : List Int) : List PSeen := runM b {} {} steps
def unpackM : Option PMsg :=
  match parseM b [1, 3, 8, 13, 18] with
  | [s0, s1, s2, s3, s4] => if s0.fault = 0 ∧ s1.fault = 0 ∧ s2.fault = 0 ∧ s3.fault = 0 ∧ s4.fault = 0 then
      some { id := s0.id, bits := s0.bits, asks := s1.asks, answers := s2.recs, authorities := s3.recs, additionals := s4.recs } else none
  | _ => none
end
structure WF (b : List UInt8) (m : PM) : Prop where
  before : m.sec = 0 → m = {}
  secs : m.sec ≤ 5
  behind : m.sec = 5 → m.index = 0 ∧ m.valid = false
  idx : 1 ≤ m.sec → m.sec ≤ 4 → m.index ≤ count b m.sec
  idxV : m.valid = true → m.index < count b m.sec ∧ m.headAt ≤ b.length ∧ m.at_ ≤ b.length
  long : 1 ≤ m.sec → 12 ≤ b.length
  at_le : m.at_ ≤ b.length + 65535
  hl : m.hlen < 65536
  ht : m.htype < 65536
theorem cW (b : List UInt8) (s : Nat) : count b s < 65536 := w16_lt _ _
end Go.Proofs.YtgpfjlfkaoffeaaGreatDoor

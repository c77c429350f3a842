/- The proof layer of this claim, third part: operations that give one value and leave the world alone. -/
import Derived.Test.YtgpfjlfkaoffeaaGreatDoorP02
set_option linter.all false
namespace Go.Proofs.YtgpfjlfkaoffeaaGreatDoor
open Go
section
variable {P : Program} {ρ : Env} {w : World}
theorem aC {x : Operand} {v : Value} (hx : ev ρ x = some v) : PO P (.move x) ρ w v := by
  intro o e ho he
  simp [execOp, ho, he _ _ hx]
theorem aD {x : Operand} {v : Value} (hx : ev ρ x = some v) : PO P (.assign x) ρ w v := by
  intro o e ho he
  simp [execOp, ho, he _ _ hx]
theorem bO {c a b : Operand} {v : Value} {t : Bool} (hc : ev ρ c = some (.bool t)) (ht : t = true) (ha : ev ρ a = some v) : PO P (.pick c a b) ρ w v := by
  intro o e ho he
  subst ht
  simp [execOp, ho, he _ _ hc, he _ _ ha, asBool]
theorem bW {c a b : Operand} {v : Value} {t : Bool} (hc : ev ρ c = some (.bool t)) (ht : t = false) (hb : ev ρ b = some v) : PO P (.pick c a b) ρ w v := by
  intro o e ho he
  subst ht
  simp [execOp, ho, he _ _ hc, he _ _ hb, asBool]
theorem eqGuard_int {op : BinOp} {T : TypeId} {x y : Operand} {k k' : IntKind} {a b : Int} : (eqGuard op T x y (.int k a) (.int k' b)).run P w = .ok () w := by
  unfold eqGuard; cases op <;> rfl
theorem bin_int {op : BinOp} {T T' : TypeId} {x y : Operand} {k : IntKind} {a b : Int} {v : Value} (hx : ev ρ x = some (.int k a)) (hy : ev ρ y = some (.int k b))
    (h : (binOp op T (.int k a) (.int k b)).run P w = .ok v w) : PO P (.binOp op T x y T') ρ w v := by
  intro o e ho he
  simp [execOp, ho, he _ _ hx, he _ _ hy, eqGuard_int, h]
theorem bN {T T' : TypeId} {x y : Operand} {k : IntKind} {a b c : Int} (hx : ev ρ x = some (.int k a)) (hy : ev ρ y = some (.int k b)) (hc : k.wrap (a + b) = c) : PO P (.binOp .add T x y T') ρ w (.int k c) :=
  bin_int hx hy (by subst hc; simp [binOp, Op.intArith])
theorem po_sub {T T' : TypeId} {x y : Operand} {k : IntKind} {a b c : Int} (hx : ev ρ x = some (.int k a)) (hy : ev ρ y = some (.int k b)) (hc : k.wrap (a - b) = c) : PO P (.binOp .sub T x y T') ρ w (.int k c) :=
  bin_int hx hy (by subst hc; simp [binOp, Op.intArith])
theorem bI {T T' : TypeId} {x y : Operand} {k : IntKind} {a b : Int} (hx : ev ρ x = some (.int k a)) (hy : ev ρ y = some (.int k b)) : PO P (.binOp .eql T x y T') ρ w (.bool (decide (a = b))) :=
  bin_int hx hy (by simp [binOp, Op.intCmp]; rfl)
theorem po_neq {T T' : TypeId} {x y : Operand} {k : IntKind} {a b : Int} (hx : ev ρ x = some (.int k a)) (hy : ev ρ y = some (.int k b)) : PO P (.binOp .neq T x y T') ρ w (.bool (decide (a ≠ b))) :=
  bin_int hx hy (by
    have : (a != b) = decide (a ≠ b) := by
      by_cases h : a = b
      · simp [h]
      · simp [h]
    simp [binOp, Op.intCmp, this])
theorem cY {T T' : TypeId} {x y : Operand} {k : IntKind} {a b : Int} (hx : ev ρ x = some (.int k a)) (hy : ev ρ y = some (.int k b)) : PO P (.binOp .lss T x y T') ρ w (.bool (decide (a < b))) :=
  bin_int hx hy (by simp [binOp, Op.intCmp])
theorem po_leq {T T' : TypeId} {x y : Operand} {k : IntKind} {a b : Int} (hx : ev ρ x = some (.int k a)) (hy : ev ρ y = some (.int k b)) : PO P (.binOp .leq T x y T') ρ w (.bool (decide (a ≤ b))) :=
  bin_int hx hy (by simp [binOp, Op.intCmp])
theorem cQ {T T' : TypeId} {x y : Operand} {k : IntKind} {a b : Int} (hx : ev ρ x = some (.int k a)) (hy : ev ρ y = some (.int k b)) : PO P (.binOp .gtr T x y T') ρ w (.bool (decide (b < a))) :=
  bin_int hx hy (by simp [binOp, Op.intCmp])
theorem po_geq {T T' : TypeId} {x y : Operand} {k : IntKind} {a b : Int} (hx : ev ρ x = some (.int k a)) (hy : ev ρ y = some (.int k b)) : PO P (.binOp .geq T x y T') ρ w (.bool (decide (b ≤ a))) :=
  bin_int hx hy (by simp [binOp, Op.intCmp])
def bitsOf (op : BinOp) (k : IntKind) (a b : Int) : Int :=
  match op with
  | .and => k.wrap (BitVec.toNat (BitVec.ofInt k.bits a &&& BitVec.ofInt k.bits b))
  | .or => k.wrap (BitVec.toNat (BitVec.ofInt k.bits a ||| BitVec.ofInt k.bits b))
  | .xor => k.wrap (BitVec.toNat (BitVec.ofInt k.bits a ^^^ BitVec.ofInt k.bits b))
  | _ => 0
theorem po_and {T T' : TypeId} {x y : Operand} {k : IntKind} {a b c : Int} (hx : ev ρ x = some (.int k a)) (hy : ev ρ y = some (.int k b)) (hc : bitsOf .and k a b = c) : PO P (.binOp .and T x y T') ρ w (.int k c) :=
  bin_int hx hy (by subst hc; simp [binOp, Op.intBits, bitsOf])
theorem po_or {T T' : TypeId} {x y : Operand} {k : IntKind} {a b c : Int} (hx : ev ρ x = some (.int k a)) (hy : ev ρ y = some (.int k b)) (hc : bitsOf .or k a b = c) : PO P (.binOp .or T x y T') ρ w (.int k c) :=
  bin_int hx hy (by subst hc; simp [binOp, Op.intBits, bitsOf])
theorem po_xor {T T' : TypeId} {x y : Operand} {k : IntKind} {a b c : Int} (hx : ev ρ x = some (.int k a)) (hy : ev ρ y = some (.int k b)) (hc : bitsOf .xor k a b = c) : PO P (.binOp .xor T x y T') ρ w (.int k c) :=
  bin_int hx hy (by subst hc; simp [binOp, Op.intBits, bitsOf])
theorem po_shl {T T' : TypeId} {x y : Operand} {k k' : IntKind} {a b c : Int} (hx : ev ρ x = some (.int k a)) (hy : ev ρ y = some (.int k' b)) (hb : 0 ≤ b) (hc : k.wrap (a * 2 ^ (min b.toNat k.bits)) = c) :
    PO P (.binOp .shl T x y T') ρ w (.int k c) := by
  intro o e ho he
  have : ¬ b < 0 := by omega
  subst hc
  simp [execOp, ho, he _ _ hx, he _ _ hy, eqGuard_int, binOp, Op.shift, this]
theorem po_shr {T T' : TypeId} {x y : Operand} {k k' : IntKind} {a b c : Int} (hx : ev ρ x = some (.int k a)) (hy : ev ρ y = some (.int k' b)) (hb : 0 ≤ b) (hc : a.fdiv (2 ^ (min b.toNat k.bits)) = c) :
    PO P (.binOp .shr T x y T') ρ w (.int k c) := by
  intro o e ho he
  have : ¬ b < 0 := by omega
  subst hc
  simp [execOp, ho, he _ _ hx, he _ _ hy, eqGuard_int, binOp, Op.shift, this]
theorem cS {T : TypeId} {x : Operand} {b : Bool} (hx : ev ρ x = some (.bool b)) : PO P (.unOp .not T x) ρ w (.bool (!b)) := by
  intro o e ho he
  simp [execOp, ho, he _ _ hx, Op.unary]
theorem eqGuard_str {op : BinOp} {T : TypeId} {x y : Operand} {a b : ByteArray} : (eqGuard op T x y (.string a) (.string b)).run P w = .ok () w := by
  unfold eqGuard; cases op <;> rfl
theorem toList_beq (a b : ByteArray) : (a.toList == b.toList) = decide (a = b) := by
  by_cases h : a = b
  · subst h; simp
  · simp only [h, decide_false]
    have hl : ∀ x : ByteArray, x.toList = x.data.toList := fun x => ByteArray.toList_eq x
    simp only [beq_eq_false_iff_ne, ne_eq, hl]
    intro e
    apply h
    cases a; cases b
    simp at e
    rw [e]
theorem po_eql_str {T T' : TypeId} {x y : Operand} {a b : ByteArray} (hx : ev ρ x = some (.string a)) (hy : ev ρ y = some (.string b)) : PO P (.binOp .eql T x y T') ρ w (.bool (decide (a = b))) := by
  intro o e ho he
  simp [execOp, ho, he _ _ hx, he _ _ hy, eqGuard_str, binOp, Op.stringOp, toList_beq]
theorem po_add_str {T T' : TypeId} {x y : Operand} {a b : ByteArray} (hx : ev ρ x = some (.string a)) (hy : ev ρ y = some (.string b)) (hs : a.size + b.size ≤ 9223372036854775807) : PO P (.binOp .add T x y T') ρ w (.string (a ++ b)) := by
  intro o e ho he
  have : ¬ (((a.size + b.size : Nat) : Int) > IntKind.i64.max) := by
    have h : IntKind.i64.max = 9223372036854775807 := by rfl
    rw [h]; omega
  simp only [execOp, ho, he _ _ hx, he _ _ hy, Sem.run_bind, eqGuard_str, Result.andThen_ok, binOp, Op.stringOp, if_neg this, Sem.run_pure]
theorem bin_gen {op : BinOp} {T T' : TypeId} {x y : Operand} {a b : Value} {v : Value} (hx : ev ρ x = some a) (hy : ev ρ y = some b) (hg : (eqGuard op T x y a b).run P w = .ok () w)
    (h : (binOp op T a b).run P w = .ok v w) : PO P (.binOp op T x y T') ρ w v := by
  intro o e ho he
  simp only [execOp, ho, he _ _ hx, he _ _ hy, Sem.run_bind, hg, Result.andThen_ok, h, Sem.run_pure]
theorem equalIn_iface_nil (d : Nat) {T t : TypeId} {v : Value} {ms : Array (String × TypeId)} (hT : P.underlying T = some (.interface ms)) : (Op.equalIn (d + 1) T (.iface t v) .nilIface).run P w = .ok false w := by
  simp [Op.equalIn, run_underlying hT]
theorem equalIn_nil_nil (d : Nat) {T : TypeId} {ms : Array (String × TypeId)} (hT : P.underlying T = some (.interface ms)) : (Op.equalIn (d + 1) T .nilIface .nilIface).run P w = .ok true w := by
  simp [Op.equalIn, run_underlying hT]
theorem binOp_eql_gen {T : TypeId} {a b : Value} {r : Bool} (ha : ∀ k n, a ≠ .int k n) (hs : ∀ s, a ≠ .string s) (hf : ∀ k n, a ≠ .float k n) (hc : ∀ k n m, a ≠ .complex k n m) (hp : ∀ x, a ≠ .pointer x)
    (h : (Op.equal T a b).run P w = .ok r w) : (binOp .eql T a b).run P w = .ok (.bool r) w := by
  cases a <;> first | exact (ha _ _ rfl).elim | exact (hs _ rfl).elim | exact (hf _ _ rfl).elim | exact (hc _ _ _ rfl).elim | exact (hp _ rfl).elim | simp [binOp, h]
theorem binOp_neq_gen {T : TypeId} {a b : Value} {r : Bool} (ha : ∀ k n, a ≠ .int k n) (hs : ∀ s, a ≠ .string s) (hf : ∀ k n, a ≠ .float k n) (hc : ∀ k n m, a ≠ .complex k n m) (hp : ∀ x, a ≠ .pointer x)
    (h : (Op.equal T a b).run P w = .ok r w) : (binOp .neq T a b).run P w = .ok (.bool (!r)) w := by
  cases a <;> first | exact (ha _ _ rfl).elim | exact (hs _ rfl).elim | exact (hf _ _ rfl).elim | exact (hc _ _ _ rfl).elim | exact (hp _ rfl).elim | simp [binOp, h]
theorem po_eql_nil {T T' : TypeId} {x : Operand} {t : TypeId} {v : Value} {ms : Array (String × TypeId)} (hT : P.underlying T = some (.interface ms)) (hx : ev ρ x = some (.iface t v)) :
    PO P (.binOp .eql T x (.const .nilIface) T') ρ w (.bool false) :=
  bin_gen hx (y := .const .nilIface) rfl rfl (binOp_eql_gen (by simp) (by simp) (by simp) (by simp) (by simp) (equalIn_iface_nil 9999 hT))
theorem po_eql_nil' {T T' : TypeId} {x : Operand} {ms : Array (String × TypeId)} (hT : P.underlying T = some (.interface ms)) (hx : ev ρ x = some .nilIface) :
    PO P (.binOp .eql T x (.const .nilIface) T') ρ w (.bool true) :=
  bin_gen hx (y := .const .nilIface) rfl (by unfold eqGuard; cases x <;> rfl) (binOp_eql_gen (by simp) (by simp) (by simp) (by simp) (by simp) (equalIn_nil_nil 9999 hT))
theorem po_neq_nil {T T' : TypeId} {x : Operand} {t : TypeId} {v : Value} {ms : Array (String × TypeId)} (hT : P.underlying T = some (.interface ms)) (hx : ev ρ x = some (.iface t v)) :
    PO P (.binOp .neq T x (.const .nilIface) T') ρ w (.bool true) :=
  bin_gen hx (y := .const .nilIface) rfl rfl (binOp_neq_gen (r := false) (by simp) (by simp) (by simp) (by simp) (by simp) (equalIn_iface_nil 9999 hT))
theorem po_neq_nil' {T T' : TypeId} {x : Operand} {ms : Array (String × TypeId)} (hT : P.underlying T = some (.interface ms)) (hx : ev ρ x = some .nilIface) :
    PO P (.binOp .neq T x (.const .nilIface) T') ρ w (.bool false) :=
  bin_gen hx (y := .const .nilIface) rfl (by unfold eqGuard; cases x <;> rfl) (binOp_neq_gen (r := true) (by simp) (by simp) (by simp) (by simp) (by simp) (equalIn_nil_nil 9999 hT))
theorem cG {T : TypeId} {x : Operand} {v : Value} {d : TypeDesc} (hT : P.underlying T = some d) (hd : ∀ ms, d ≠ .interface ms) (hx : ev ρ x = some v) : PO P (.makeInterface T x) ρ w (.iface T v) := by
  intro o e ho he
  cases d with
  | interface ms => exact (hd ms rfl).elim
  | _ => simp [execOp, ho, he _ _ hx, Instr.makeInterface, run_underlying hT]
theorem bY {S D : TypeId} {x : Operand} {k k' : IntKind} {d : TypeDesc} {n c : Int} (hS : P.underlying S = some d) (hD : P.underlying D = some (.int k)) (hx : ev ρ x = some (.int k' n)) (hc : k.wrap n = c) :
    PO P (.convert S D x) ρ w (.int k c) := by
  intro o e ho he
  subst hc
  cases d <;> simp [execOp, ho, he _ _ hx, convert, run_underlying hS, run_underlying hD, Conv.intToInt]
theorem aI {x : Operand} {i : Nat} {l : List Value} {v : Value} (hx : ev ρ x = some (.tuple l.toArray)) (hi : lget l i = some v) : PO P (.extract x i) ρ w v := by
  intro o e ho he
  rw [lget_eq] at hi
  simp [execOp, ho, he _ _ hx, Instr.extract, hi]
theorem aN {x : Operand} {a : Addr} (hx : ev ρ x = some (.pointer (some a))) : PO P (.nilCheck x) ρ w (.pointer (some a)) := by
  intro o e ho he
  simp [execOp, ho, he _ _ hx]
theorem fieldOff_spec {S : TypeId} {f off : Nat} (h : fieldOff P S f = some off) :
    ∃ fields fd i, P.underlying S = some (.struct fields) ∧ fields[f]? = some fd ∧ fd.offset = off ∧ P.info? fd.type = some i ∧ i.size ≠ 0 := by
  unfold fieldOff at h
  split at h
  · rename_i fields hS
    split at h
    · rename_i fd hf
      split at h
      · rename_i i hi
        split at h
        · cases h
        · rename_i hz
          simp at h
          exact ⟨fields, fd, i, hS, hf, h, hi, hz⟩
      · cases h
    · cases h
  · cases h
theorem run_fieldAt {S : TypeId} {f off b p : Nat} (hS : fieldOff P S f = some off) : (Instr.fieldAt S (.pointer (some ⟨b, p, none⟩)) f).run P w = .ok (.pointer (some ⟨b, p + off, none⟩)) w := by
  obtain ⟨fields, fd, i, h1, h2, rfl, h4, h5⟩ := fieldOff_spec hS
  simp [Instr.fieldAt, run_underlying h1, h2, Instr.sureAddr, fieldPlace, sizeOf, typeInfo, h4, h5, add_at]
theorem bD {S : TypeId} {x : Operand} {f off b p : Nat} (hS : fieldOff P S f = some off) (hx : ev ρ x = some (.pointer (some ⟨b, p, none⟩))) :
    PO P (.fieldAddr S x f) ρ w (.pointer (some ⟨b, p + off, none⟩)) := by
  intro o e ho he
  simp [execOp, ho, he _ _ hx, run_fieldAt hS]
theorem aR {S : TypeId} {x : Operand} {f off b : Nat} (hS : fieldOff P S f = some off) (hx : ev ρ x = some (.pointer (some ⟨b, 0, none⟩))) :
    PO P (.fieldAddr S x f) ρ w (.pointer (some ⟨b, off, none⟩)) := by
  have := bD (w := w) hS hx
  rwa [Nat.zero_add] at this
theorem elemSize_spec {S e : TypeId} {k : Nat} (h : elemSize P S = some (e, k)) : P.underlying S = some (.slice e) ∧ ∃ i, P.info? e = some i ∧ i.size = k := by
  unfold elemSize at h
  split at h
  · rename_i e' hS
    split at h
    · rename_i i hi
      simp at h
      obtain ⟨rfl, rfl⟩ := h
      exact ⟨hS, i, hi, rfl⟩
    · cases h
  · cases h
theorem arrSize_spec {S e : TypeId} {n k : Nat} (h : arrSize P S = some (n, e, k)) : P.underlying S = some (.array n e) ∧ ∃ i, P.info? e = some i ∧ i.size = k := by
  unfold arrSize at h
  split at h
  · rename_i n' e' hS
    split at h
    · rename_i i hi
      simp at h
      obtain ⟨rfl, rfl, rfl⟩ := h
      exact ⟨hS, i, hi, rfl⟩
    · cases h
  · cases h
theorem po_ia {S e : TypeId} {x y : Operand} {k b p len cap : Nat} {i : Int} {kk : IntKind} (hS : elemSize P S = some (e, k)) (hx : ev ρ x = some (.slice (some ⟨b, p, none⟩) len cap)) (hy : ev ρ y = some (.int kk i))
    (hi : 0 ≤ i) (hl : i < len) : PO P (.indexAddr S x y) ρ w (.pointer (some ⟨b, p + i.toNat * k, none⟩)) := by
  intro o e' ho he
  obtain ⟨h1, inf, h2, rfl⟩ := elemSize_spec hS
  simp [execOp, ho, he _ _ hx, he _ _ hy, Instr.indexAt, asIntOf, run_underlying h1, hi, hl, sizeOf, typeInfo, h2, add_at]
theorem po_ia_arr {S e : TypeId} {x y : Operand} {n k b p : Nat} {i : Int} {kk : IntKind} (hS : arrSize P S = some (n, e, k)) (hx : ev ρ x = some (.pointer (some ⟨b, p, none⟩))) (hy : ev ρ y = some (.int kk i))
    (hi : 0 ≤ i) (hl : i < n) : PO P (.indexAddr S x y) ρ w (.pointer (some ⟨b, p + i.toNat * k, none⟩)) := by
  intro o e' ho he
  obtain ⟨h1, inf, h2, rfl⟩ := arrSize_spec hS
  simp [execOp, ho, he _ _ hx, he _ _ hy, Instr.indexAt, asIntOf, run_underlying h1, hi, hl, sizeOf, typeInfo, h2, add_at, Instr.sureAddr]
theorem aO {T : TypeId} {x : Operand} {a : Addr} {v : Value} (hx : ev ρ x = some (.pointer (some a))) (h : (loadVar T a).run P w = .ok v w) : PO P (.load T x) ρ w v := by
  intro o e ho he
  simp [execOp, ho, he _ _ hx, Instr.loadAt, Instr.sureAddr, h]
theorem bR {T : TypeId} {k : Nat} {a : Addr} {v : Value} (hk : kindOf P T = some (false, k)) (hc : w.cell? a = some v) : (loadVar T a).run P w = .ok v w := by
  simp [loadVar, kind_agg hk, hc]
theorem cell_list {b p : Nat} {l : List Value} {E : TypeId} {fz : Nat × Nat} (hb : w.heap[b]? = some (.cells l.toArray E fz)) : w.cell? ⟨b, p, none⟩ = l[p]? := by
  simp [World.cell?, hb]
theorem aQ {T : TypeId} {k b p : Nat} {l : List Value} {E : TypeId} {fz : Nat × Nat} {v : Value} (hk : kindOf P T = some (false, k)) (hb : w.heap[b]? = some (.cells l.toArray E fz)) (hv : lget l p = some v) :
    (loadVar T ⟨b, p, none⟩).run P w = .ok v w := bR hk (by rw [cell_list hb, ← lget_eq]; exact hv)
theorem ld_agg {T : TypeId} {k b p : Nat} {l : List Value} {E : TypeId} {fz : Nat × Nat} (hk : kindOf P T = some (true, k)) (hb : w.heap[b]? = some (.cells l.toArray E fz)) (hl : p + k ≤ l.length) :
    (loadVar T ⟨b, p, none⟩).run P w = .ok (.agg ((l.drop p).take k).toArray) w := by
  have h := run_loadCells_list (P := P) w ⟨b, p, none⟩ ((l.drop p).take k) (fun j v hv => by
    rw [add_at, cell_list hb]
    simp only [List.getElem?_take, List.getElem?_drop] at hv
    split at hv
    · exact hv
    · cases hv)
  have hlen : ((l.drop p).take k).length = k := by simp; omega
  rw [hlen] at h
  simp [loadVar, kind_agg hk, kind_size hk, h]
theorem aP {T : TypeId} {k b : Nat} {l : List Value} {E : TypeId} {fz : Nat × Nat} (hk : kindOf P T = some (true, k)) (hb : w.heap[b]? = some (.cells l.toArray E fz)) (hl : l.length = k) :
    (loadVar T ⟨b, 0, none⟩).run P w = .ok (.agg l.toArray) w := by
  have := ld_agg (p := 0) hk hb (by omega)
  rw [this]
  simp [← hl]
theorem bC {T E : TypeId} {x : Operand} {a : Option Addr} {len cap : Nat} (hT : P.underlying T = some (.slice E)) (hx : ev ρ x = some (.slice a len cap)) :
    PO P (.call { callee := .builtin .len, args := #[x], argTypes := #[T] }) ρ w (.int .i64 len) := by
  intro o e ho he
  simp [execOp, ho, resolve, he _ _ hx, invoke, builtin, Builtin.len_, run_underlying hT, goInt]
theorem po_len_str {T : TypeId} {x : Operand} {s : ByteArray} (hT : P.underlying T = some .string) (hx : ev ρ x = some (.string s)) :
    PO P (.call { callee := .builtin .len, args := #[x], argTypes := #[T] }) ρ w (.int .i64 s.size) := by
  intro o e ho he
  simp [execOp, ho, resolve, he _ _ hx, invoke, builtin, Builtin.len_, run_underlying hT, goInt]
inductive Bd (ρ : Env) : Option Operand → Nat → Nat → Prop where
  | no (d : Nat) : Bd ρ none d d
  | yes {x : Operand} {k : IntKind} {i : Int} (d : Nat) (h : ev ρ x = some (.int k i)) (hi : 0 ≤ i) : Bd ρ (some x) d i.toNat
theorem bound_run {e : Operand → Value} (he : Ag ρ e) {x : Operand} {k : IntKind} {i : Int} {y : Nat} {c : BoundsCode} (h : ev ρ x = some (.int k i)) (hi : 0 ≤ i) (hy : i.toNat ≤ y) :
    (Instr.sliceBound (e x) y c).run P w = .ok i.toNat w := by
  have : i ≤ y := by omega
  simp [Instr.sliceBound, he _ _ h, asIntOf, hi, this]
theorem run_sliceBounds {e : Operand → Value} (he : Ag ρ e) {lo hi : Option Operand} {l h len cap : Nat} {isS : Bool} (hlo : Bd ρ lo 0 l) (hhi : Bd ρ hi len h) (h1 : l ≤ h) (h2 : h ≤ cap) :
    (Instr.sliceBounds isS len cap (lo.map e) (hi.map e) none).run P w = .ok (l, h, cap) w := by
  cases hlo with
  | no =>
    cases hhi with
    | no => simp [Instr.sliceBounds]
    | yes _ hx hi0 => simp [Instr.sliceBounds, bound_run he hx hi0 h2]
  | yes _ hy hj0 =>
    cases hhi with
    | no => simp [Instr.sliceBounds, bound_run he hy hj0 h1]
    | yes _ hx hi0 => simp [Instr.sliceBounds, bound_run he hx hi0 h2, bound_run he hy hj0 h1]
def sliceAddr (a : Option Addr) (l cap k : Nat) : Option Addr := if cap = l then a else a.map (·.add (l * k))
theorem po_slice {T e : TypeId} {x : Operand} {lo hi : Option Operand} {a : Option Addr} {len cap k l h : Nat} (hT : elemSize P T = some (e, k)) (hx : ev ρ x = some (.slice a len cap))
    (hlo : Bd ρ lo 0 l) (hhi : Bd ρ hi len h) (h1 : l ≤ h) (h2 : h ≤ cap) : PO P (.slice T x lo hi none) ρ w (.slice (sliceAddr a l cap k) (h - l) (cap - l)) := by
  intro o e' ho he
  obtain ⟨hS, i, hi', rfl⟩ := elemSize_spec hT
  simp [execOp, ho, he _ _ hx, Instr.sliceAt, Instr.slice, run_underlying hS, run_sliceBounds he hlo hhi h1 h2, sizeOf, typeInfo, hi', sliceAddr]
theorem po_slice_arr {T e : TypeId} {x : Operand} {lo hi : Option Operand} {n b p k l h : Nat} (hT : arrSize P T = some (n, e, k)) (hx : ev ρ x = some (.pointer (some ⟨b, p, none⟩)))
    (hlo : Bd ρ lo 0 l) (hhi : Bd ρ hi n h) (h1 : l ≤ h) (h2 : h ≤ n) : PO P (.slice T x lo hi none) ρ w (.slice (some ⟨b, if n = l then p else p + l * k, none⟩) (h - l) (n - l)) := by
  intro o e' ho he
  obtain ⟨hS, i, hi', rfl⟩ := arrSize_spec hT
  simp [execOp, ho, he _ _ hx, Instr.sliceAt, run_underlying hS, run_sliceBounds he hlo hhi h1 h2, sizeOf, typeInfo, hi', Instr.sureAddr, add_at]
  split <;> simp_all
theorem po_slice_str {T : TypeId} {x : Operand} {lo hi : Option Operand} {s : ByteArray} {l h : Nat} (hT : P.underlying T = some .string) (hx : ev ρ x = some (.string s))
    (hlo : Bd ρ lo 0 l) (hhi : Bd ρ hi s.size h) (h1 : l ≤ h) (h2 : h ≤ s.size) : PO P (.slice T x lo hi none) ρ w (.string (s.extract l h)) := by
  intro o e' ho he
  simp [execOp, ho, he _ _ hx, Instr.sliceAt, Instr.slice, run_underlying hT, run_sliceBounds he hlo hhi h1 h2]
theorem po_typeAssert_yes {x : Operand} {T A : TypeId} {v : Value} {d : TypeDesc} (hA : P.underlying A = some d) (hd : ∀ ms, d ≠ .interface ms) (hx : ev ρ x = some (.iface A v)) : PO P (.typeAssert x T A true) ρ w (.tuple #[v, .bool true]) := by
  intro o e ho he
  cases d with
  | interface ms => exact (hd ms rfl).elim
  | _ => simp [execOp, ho, he _ _ hx, Instr.typeAssert, run_underlying hA]
theorem po_typeAssert_no {x : Operand} {T A B : TypeId} {v z : Value} {d : TypeDesc} {i : TypeInfo} (hA : P.underlying A = some d) (hd : ∀ ms, d ≠ .interface ms) (hz : P.info? A = some i) (hz' : i.zero = some z) (hx : ev ρ x = some (.iface B v)) (hne : B ≠ A) :
    PO P (.typeAssert x T A true) ρ w (.tuple #[z, .bool false]) := by
  intro o e ho he
  cases d with
  | interface ms => exact (hd ms rfl).elim
  | _ => simp [execOp, ho, he _ _ hx, Instr.typeAssert, run_underlying hA, hne, zeroValue, typeInfo, hz, hz']
theorem zip_pairs (e : Operand → Value) : ∀ ps : List (Nat × Operand), ps.map (fun x => (x.1, e x.2)) = (ps.map (fun x => x.1)).zip (ps.map (e ∘ fun x => x.2))
  | [] => rfl
  | p :: r => by simp only [List.map_cons, List.zip_cons_cons, zip_pairs e r]; rfl
theorem bM {T : TypeId} {ps : List (Nat × Operand)} {vs : List Value} {l : List Value} (hv : evL ρ (ps.map (·.2)) = some vs) (h : P.built T ((ps.map (·.1)).zip vs) = some l.toArray) : PO P (.build T ps.toArray) ρ w (.agg l.toArray) := by
  intro o e ho he
  have h2 : ps.map (fun x => (x.1, e x.2)) = (ps.map (·.1)).zip vs := by
    have := he.list hv
    rw [← this, List.map_map]
    exact zip_pairs e ps
  have hb := run_build (P := P) w T (ps.toArray.map fun (i, x) => (i, e x)) l.toArray (by
    simpa [h2] using h)
  simp only [execOp, ho, Sem.run_bind, hb, Result.andThen_ok, Sem.run_pure]
end
end Go.Proofs.YtgpfjlfkaoffeaaGreatDoor

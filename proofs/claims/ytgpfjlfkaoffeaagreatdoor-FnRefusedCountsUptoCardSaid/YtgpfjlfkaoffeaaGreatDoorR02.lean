/- The proof layer of this claim, third part: operations that give one value and leave the world alone. The proof layer of this claim, fourth part: operations that make or write memory, and calls. -/
import Derived.Test.YtgpfjlfkaoffeaaGreatDoorR01
set_option linter.all false
namespace Go.Proofs.YtgpfjlfkaoffeaaGreatDoor
open Go
section
variable {P : Program} {ρ : Env} {w : World}
theorem aC {x : Operand} {v : Value} (hx : ev ρ x = some v) : PO P (.move x) ρ w v := by
  intro o e ho he
  simp [execOp, ho, he _ _ hx]
theorem aD {x : Operand} {v : Value} (hx : ev ρ x = some v) : PO P (.assign x) ρ w v := by
  intro o e ho he
  simp [execOp, ho, he _ _ hx]
theorem bO {c a b : Operand} {v : Value} {t : Bool} (hc : ev ρ c = some (.bool t)) (ht : t = true) (ha : ev ρ a = some v) : PO P (.pick c a b) ρ w v := by
  intro o e ho he
  subst ht
  simp [execOp, ho, he _ _ hc, he _ _ ha, asBool]
theorem bW {c a b : Operand} {v : Value} {t : Bool} (hc : ev ρ c = some (.bool t)) (ht : t = false) (hb : ev ρ b = some v) : PO P (.pick c a b) ρ w v := by
  intro o e ho he
  subst ht
  simp [execOp, ho, he _ _ hc, he _ _ hb, asBool]
theorem eqGuard_int {op : BinOp} {T : TypeId} {x y : Operand} {k k' : IntKind} {a b : Int} : (eqGuard op T x y (.int k a) (.int k' b)).run P w = .ok () w := by
  unfold eqGuard; cases op <;> rfl
theorem bin_int {op : BinOp} {T T' : TypeId} {x y : Operand} {k : IntKind} {a b : Int} {v : Value} (hx : ev ρ x = some (.int k a)) (hy : ev ρ y = some (.int k b))
    (h : (binOp op T (.int k a) (.int k b)).run P w = .ok v w) : PO P (.binOp op T x y T') ρ w v := by
  intro o e ho he
  simp [execOp, ho, he _ _ hx, he _ _ hy, eqGuard_int, h]
theorem bN {T T' : TypeId} {x y : Operand} {k : IntKind} {a b c : Int} (hx : ev ρ x = some (.int k a)) (hy : ev ρ y = some (.int k b)) (hc : k.wrap (a + b) = c) : PO P (.binOp .add T x y T') ρ w (.int k c) :=
  bin_int hx hy (by subst hc; simp [binOp, Op.intArith])
theorem po_sub {T T' : TypeId} {x y : Operand} {k : IntKind} {a b c : Int} (hx : ev ρ x = some (.int k a)) (hy : ev ρ y = some (.int k b)) (hc : k.wrap (a - b) = c) : PO P (.binOp .sub T x y T') ρ w (.int k c) :=
  bin_int hx hy (by subst hc; simp [binOp, Op.intArith])
theorem po_mul {T T' : TypeId} {x y : Operand} {k : IntKind} {a b c : Int} (hx : ev ρ x = some (.int k a)) (hy : ev ρ y = some (.int k b)) (hc : k.wrap (a * b) = c) : PO P (.binOp .mul T x y T') ρ w (.int k c) :=
  bin_int hx hy (by subst hc; simp [binOp, Op.intArith])
theorem bI {T T' : TypeId} {x y : Operand} {k : IntKind} {a b : Int} (hx : ev ρ x = some (.int k a)) (hy : ev ρ y = some (.int k b)) : PO P (.binOp .eql T x y T') ρ w (.bool (decide (a = b))) :=
  bin_int hx hy (by simp [binOp, Op.intCmp]; rfl)
theorem po_neq {T T' : TypeId} {x y : Operand} {k : IntKind} {a b : Int} (hx : ev ρ x = some (.int k a)) (hy : ev ρ y = some (.int k b)) : PO P (.binOp .neq T x y T') ρ w (.bool (decide (a ≠ b))) :=
  bin_int hx hy (by
    have : (a != b) = decide (a ≠ b) := by
      by_cases h : a = b
      · simp [h]
      · simp [h]
    simp [binOp, Op.intCmp, this])
theorem cY {T T' : TypeId} {x y : Operand} {k : IntKind} {a b : Int} (hx : ev ρ x = some (.int k a)) (hy : ev ρ y = some (.int k b)) : PO P (.binOp .lss T x y T') ρ w (.bool (decide (a < b))) :=
  bin_int hx hy (by simp [binOp, Op.intCmp])
theorem po_leq {T T' : TypeId} {x y : Operand} {k : IntKind} {a b : Int} (hx : ev ρ x = some (.int k a)) (hy : ev ρ y = some (.int k b)) : PO P (.binOp .leq T x y T') ρ w (.bool (decide (a ≤ b))) :=
  bin_int hx hy (by simp [binOp, Op.intCmp])
theorem cQ {T T' : TypeId} {x y : Operand} {k : IntKind} {a b : Int} (hx : ev ρ x = some (.int k a)) (hy : ev ρ y = some (.int k b)) : PO P (.binOp .gtr T x y T') ρ w (.bool (decide (b < a))) :=
  bin_int hx hy (by simp [binOp, Op.intCmp])
theorem po_geq {T T' : TypeId} {x y : Operand} {k : IntKind} {a b : Int} (hx : ev ρ x = some (.int k a)) (hy : ev ρ y = some (.int k b)) : PO P (.binOp .geq T x y T') ρ w (.bool (decide (b ≤ a))) :=
  bin_int hx hy (by simp [binOp, Op.intCmp])
def bitsOf (op : BinOp) (k : IntKind) (a b : Int) : Int :=
  match op with
  | .and => k.wrap (BitVec.toNat (BitVec.ofInt k.bits a &&& BitVec.ofInt k.bits b))
  | .or => k.wrap (BitVec.toNat (BitVec.ofInt k.bits a ||| BitVec.ofInt k.bits b))
  | .xor => k.wrap (BitVec.toNat (BitVec.ofInt k.bits a ^^^ BitVec.ofInt k.bits b))
  | _ => 0
theorem po_and {T T' : TypeId} {x y : Operand} {k : IntKind} {a b c : Int} (hx : ev ρ x = some (.int k a)) (hy : ev ρ y = some (.int k b)) (hc : bitsOf .and k a b = c) : PO P (.binOp .and T x y T') ρ w (.int k c) :=
  bin_int hx hy (by subst hc; simp [binOp, Op.intBits, bitsOf])
theorem po_or {T T' : TypeId} {x y : Operand} {k : IntKind} {a b c : Int} (hx : ev ρ x = some (.int k a)) (hy : ev ρ y = some (.int k b)) (hc : bitsOf .or k a b = c) : PO P (.binOp .or T x y T') ρ w (.int k c) :=
  bin_int hx hy (by subst hc; simp [binOp, Op.intBits, bitsOf])
theorem po_xor {T T' : TypeId} {x y : Operand} {k : IntKind} {a b c : Int} (hx : ev ρ x = some (.int k a)) (hy : ev ρ y = some (.int k b)) (hc : bitsOf .xor k a b = c) : PO P (.binOp .xor T x y T') ρ w (.int k c) :=
  bin_int hx hy (by subst hc; simp [binOp, Op.intBits, bitsOf])
theorem po_shl {T T' : TypeId} {x y : Operand} {k k' : IntKind} {a b c : Int} (hx : ev ρ x = some (.int k a)) (hy : ev ρ y = some (.int k' b)) (hb : 0 ≤ b) (hc : k.wrap (a * 2 ^ (min b.toNat k.bits)) = c) :
    PO P (.binOp .shl T x y T') ρ w (.int k c) := by
  intro o e ho he
  have : ¬ b < 0 := by omega
  subst hc
  simp [execOp, ho, he _ _ hx, he _ _ hy, eqGuard_int, binOp, Op.shift, this]
theorem po_shr {T T' : TypeId} {x y : Operand} {k k' : IntKind} {a b c : Int} (hx : ev ρ x = some (.int k a)) (hy : ev ρ y = some (.int k' b)) (hb : 0 ≤ b) (hc : a.fdiv (2 ^ (min b.toNat k.bits)) = c) :
    PO P (.binOp .shr T x y T') ρ w (.int k c) := by
  intro o e ho he
  have : ¬ b < 0 := by omega
  subst hc
  simp [execOp, ho, he _ _ hx, he _ _ hy, eqGuard_int, binOp, Op.shift, this]
theorem cS {T : TypeId} {x : Operand} {b : Bool} (hx : ev ρ x = some (.bool b)) : PO P (.unOp .not T x) ρ w (.bool (!b)) := by
  intro o e ho he
  simp [execOp, ho, he _ _ hx, Op.unary]
theorem eqGuard_str {op : BinOp} {T : TypeId} {x y : Operand} {a b : ByteArray} : (eqGuard op T x y (.string a) (.string b)).run P w = .ok () w := by
  unfold eqGuard; cases op <;> rfl
theorem toList_beq (a b : ByteArray) : (a.toList == b.toList) = decide (a = b) := by
  by_cases h : a = b
  · subst h; simp
  · simp only [h, decide_false]
    have hl : ∀ x : ByteArray, x.toList = x.data.toList := fun x => ByteArray.toList_eq x
    simp only [beq_eq_false_iff_ne, ne_eq, hl]
    intro e
    apply h
    cases a; cases b
    simp at e
    rw [e]
theorem po_eql_str {T T' : TypeId} {x y : Operand} {a b : ByteArray} (hx : ev ρ x = some (.string a)) (hy : ev ρ y = some (.string b)) : PO P (.binOp .eql T x y T') ρ w (.bool (decide (a = b))) := by
  intro o e ho he
  simp [execOp, ho, he _ _ hx, he _ _ hy, eqGuard_str, binOp, Op.stringOp, toList_beq]
theorem po_neq_str {T T' : TypeId} {x y : Operand} {a b : ByteArray} (hx : ev ρ x = some (.string a)) (hy : ev ρ y = some (.string b)) : PO P (.binOp .neq T x y T') ρ w (.bool (decide (a ≠ b))) := by
  intro o e ho he
  simp [execOp, ho, he _ _ hx, he _ _ hy, eqGuard_str, binOp, Op.stringOp, toList_beq]
theorem po_add_str {T T' : TypeId} {x y : Operand} {a b : ByteArray} (hx : ev ρ x = some (.string a)) (hy : ev ρ y = some (.string b)) (hs : a.size + b.size ≤ 9223372036854775807) : PO P (.binOp .add T x y T') ρ w (.string (a ++ b)) := by
  intro o e ho he
  have : ¬ (((a.size + b.size : Nat) : Int) > IntKind.i64.max) := by
    have h : IntKind.i64.max = 9223372036854775807 := by rfl
    rw [h]; omega
  simp only [execOp, ho, he _ _ hx, he _ _ hy, Sem.run_bind, eqGuard_str, Result.andThen_ok, binOp, Op.stringOp, if_neg this, Sem.run_pure]
theorem po_index_str {T : TypeId} {x y : Operand} {s : ByteArray} {i : Int} {b : UInt8} {k : IntKind} (hT : P.underlying T = some .string) (hx : ev ρ x = some (.string s)) (hy : ev ρ y = some (.int k i)) (hi : 0 ≤ i)
    (hb : s[i.toNat]? = some b) : PO P (.index T x y) ρ w (.int .u8 b.toNat) := by
  intro o e ho he
  simp [execOp, ho, he _ _ hx, he _ _ hy, Instr.index, asIntOf, run_underlying hT, hi, hb]
theorem bin_gen {op : BinOp} {T T' : TypeId} {x y : Operand} {a b : Value} {v : Value} (hx : ev ρ x = some a) (hy : ev ρ y = some b) (hg : (eqGuard op T x y a b).run P w = .ok () w)
    (h : (binOp op T a b).run P w = .ok v w) : PO P (.binOp op T x y T') ρ w v := by
  intro o e ho he
  simp only [execOp, ho, he _ _ hx, he _ _ hy, Sem.run_bind, hg, Result.andThen_ok, h, Sem.run_pure]
theorem equalIn_iface_nil (d : Nat) {T t : TypeId} {v : Value} {ms : Array (String × TypeId)} (hT : P.underlying T = some (.interface ms)) : (Op.equalIn (d + 1) T (.iface t v) .nilIface).run P w = .ok false w := by
  simp [Op.equalIn, run_underlying hT]
theorem equalIn_nil_nil (d : Nat) {T : TypeId} {ms : Array (String × TypeId)} (hT : P.underlying T = some (.interface ms)) : (Op.equalIn (d + 1) T .nilIface .nilIface).run P w = .ok true w := by
  simp [Op.equalIn, run_underlying hT]
theorem binOp_eql_gen {T : TypeId} {a b : Value} {r : Bool} (ha : ∀ k n, a ≠ .int k n) (hs : ∀ s, a ≠ .string s) (hf : ∀ k n, a ≠ .float k n) (hc : ∀ k n m, a ≠ .complex k n m) (hp : ∀ x, a ≠ .pointer x)
    (h : (Op.equal T a b).run P w = .ok r w) : (binOp .eql T a b).run P w = .ok (.bool r) w := by
  cases a <;> first | exact (ha _ _ rfl).elim | exact (hs _ rfl).elim | exact (hf _ _ rfl).elim | exact (hc _ _ _ rfl).elim | exact (hp _ rfl).elim | simp [binOp, h]
theorem binOp_neq_gen {T : TypeId} {a b : Value} {r : Bool} (ha : ∀ k n, a ≠ .int k n) (hs : ∀ s, a ≠ .string s) (hf : ∀ k n, a ≠ .float k n) (hc : ∀ k n m, a ≠ .complex k n m) (hp : ∀ x, a ≠ .pointer x)
    (h : (Op.equal T a b).run P w = .ok r w) : (binOp .neq T a b).run P w = .ok (.bool (!r)) w := by
  cases a <;> first | exact (ha _ _ rfl).elim | exact (hs _ rfl).elim | exact (hf _ _ rfl).elim | exact (hc _ _ _ rfl).elim | exact (hp _ rfl).elim | simp [binOp, h]
theorem po_eql_nil {T T' : TypeId} {x : Operand} {t : TypeId} {v : Value} {ms : Array (String × TypeId)} (hT : P.underlying T = some (.interface ms)) (hx : ev ρ x = some (.iface t v)) :
    PO P (.binOp .eql T x (.const .nilIface) T') ρ w (.bool false) :=
  bin_gen hx (y := .const .nilIface) rfl rfl (binOp_eql_gen (by simp) (by simp) (by simp) (by simp) (by simp) (equalIn_iface_nil 9999 hT))
theorem po_eql_nil' {T T' : TypeId} {x : Operand} {ms : Array (String × TypeId)} (hT : P.underlying T = some (.interface ms)) (hx : ev ρ x = some .nilIface) :
    PO P (.binOp .eql T x (.const .nilIface) T') ρ w (.bool true) :=
  bin_gen hx (y := .const .nilIface) rfl (by unfold eqGuard; cases x <;> rfl) (binOp_eql_gen (by simp) (by simp) (by simp) (by simp) (by simp) (equalIn_nil_nil 9999 hT))
theorem po_neq_nil {T T' : TypeId} {x : Operand} {t : TypeId} {v : Value} {ms : Array (String × TypeId)} (hT : P.underlying T = some (.interface ms)) (hx : ev ρ x = some (.iface t v)) :
    PO P (.binOp .neq T x (.const .nilIface) T') ρ w (.bool true) :=
  bin_gen hx (y := .const .nilIface) rfl rfl (binOp_neq_gen (r := false) (by simp) (by simp) (by simp) (by simp) (by simp) (equalIn_iface_nil 9999 hT))
theorem po_neq_nil' {T T' : TypeId} {x : Operand} {ms : Array (String × TypeId)} (hT : P.underlying T = some (.interface ms)) (hx : ev ρ x = some .nilIface) :
    PO P (.binOp .neq T x (.const .nilIface) T') ρ w (.bool false) :=
  bin_gen hx (y := .const .nilIface) rfl (by unfold eqGuard; cases x <;> rfl) (binOp_neq_gen (r := true) (by simp) (by simp) (by simp) (by simp) (by simp) (equalIn_nil_nil 9999 hT))
theorem cG {T : TypeId} {x : Operand} {v : Value} {d : TypeDesc} (hT : P.underlying T = some d) (hd : ∀ ms, d ≠ .interface ms) (hx : ev ρ x = some v) : PO P (.makeInterface T x) ρ w (.iface T v) := by
  intro o e ho he
  cases d with
  | interface ms => exact (hd ms rfl).elim
  | _ => simp [execOp, ho, he _ _ hx, Instr.makeInterface, run_underlying hT]
theorem bY {S D : TypeId} {x : Operand} {k k' : IntKind} {d : TypeDesc} {n c : Int} (hS : P.underlying S = some d) (hD : P.underlying D = some (.int k)) (hx : ev ρ x = some (.int k' n)) (hc : k.wrap n = c) :
    PO P (.convert S D x) ρ w (.int k c) := by
  intro o e ho he
  subst hc
  cases d <;> simp [execOp, ho, he _ _ hx, convert, run_underlying hS, run_underlying hD, Conv.intToInt]
theorem aI {x : Operand} {i : Nat} {l : List Value} {v : Value} (hx : ev ρ x = some (.tuple l.toArray)) (hi : lget l i = some v) : PO P (.extract x i) ρ w v := by
  intro o e ho he
  rw [lget_eq] at hi
  simp [execOp, ho, he _ _ hx, Instr.extract, hi]
theorem aN {x : Operand} {a : Addr} (hx : ev ρ x = some (.pointer (some a))) : PO P (.nilCheck x) ρ w (.pointer (some a)) := by
  intro o e ho he
  simp [execOp, ho, he _ _ hx]
theorem fieldOff_spec {S : TypeId} {f off : Nat} (h : eD P S f = some off) :
    ∃ fields fd i, P.underlying S = some (.struct fields) ∧ fields[f]? = some fd ∧ fd.offset = off ∧ P.info? fd.type = some i ∧ i.size ≠ 0 := by
  unfold eD at h
  split at h
  · rename_i fields hS
    split at h
    · rename_i fd hf
      split at h
      · rename_i i hi
        split at h
        · cases h
        · rename_i hz
          simp at h
          exact ⟨fields, fd, i, hS, hf, h, hi, hz⟩
      · cases h
    · cases h
  · cases h
theorem run_fieldAt {S : TypeId} {f off b p : Nat} (hS : eD P S f = some off) : (Instr.fieldAt S (.pointer (some ⟨b, p, none⟩)) f).run P w = .ok (.pointer (some ⟨b, p + off, none⟩)) w := by
  obtain ⟨fields, fd, i, h1, h2, rfl, h4, h5⟩ := fieldOff_spec hS
  simp [Instr.fieldAt, run_underlying h1, h2, Instr.sureAddr, fieldPlace, sizeOf, typeInfo, h4, h5, add_at]
theorem bD {S : TypeId} {x : Operand} {f off b p : Nat} (hS : eD P S f = some off) (hx : ev ρ x = some (.pointer (some ⟨b, p, none⟩))) :
    PO P (.fieldAddr S x f) ρ w (.pointer (some ⟨b, p + off, none⟩)) := by
  intro o e ho he
  simp [execOp, ho, he _ _ hx, run_fieldAt hS]
theorem aR {S : TypeId} {x : Operand} {f off b : Nat} (hS : eD P S f = some off) (hx : ev ρ x = some (.pointer (some ⟨b, 0, none⟩))) :
    PO P (.fieldAddr S x f) ρ w (.pointer (some ⟨b, off, none⟩)) := by
  have := bD (w := w) hS hx
  rwa [Nat.zero_add] at this
theorem elemSize_spec {S e : TypeId} {k : Nat} (h : fK P S = some (e, k)) : P.underlying S = some (.slice e) ∧ ∃ i, P.info? e = some i ∧ i.size = k := by
  unfold fK at h
  split at h
  · rename_i e' hS
    split at h
    · rename_i i hi
      simp at h
      obtain ⟨rfl, rfl⟩ := h
      exact ⟨hS, i, hi, rfl⟩
    · cases h
  · cases h
theorem arrSize_spec {S e : TypeId} {n k : Nat} (h : arrSize P S = some (n, e, k)) : P.underlying S = some (.array n e) ∧ ∃ i, P.info? e = some i ∧ i.size = k := by
  unfold arrSize at h
  split at h
  · rename_i n' e' hS
    split at h
    · rename_i i hi
      simp at h
      obtain ⟨rfl, rfl, rfl⟩ := h
      exact ⟨hS, i, hi, rfl⟩
    · cases h
  · cases h
theorem po_ia {S e : TypeId} {x y : Operand} {k b p len cap : Nat} {i : Int} {kk : IntKind} (hS : fK P S = some (e, k)) (hx : ev ρ x = some (.slice (some ⟨b, p, none⟩) len cap)) (hy : ev ρ y = some (.int kk i))
    (hi : 0 ≤ i) (hl : i < len) : PO P (.indexAddr S x y) ρ w (.pointer (some ⟨b, p + i.toNat * k, none⟩)) := by
  intro o e' ho he
  obtain ⟨h1, inf, h2, rfl⟩ := elemSize_spec hS
  simp [execOp, ho, he _ _ hx, he _ _ hy, Instr.indexAt, asIntOf, run_underlying h1, hi, hl, sizeOf, typeInfo, h2, add_at]
theorem po_ia_arr {S e : TypeId} {x y : Operand} {n k b p : Nat} {i : Int} {kk : IntKind} (hS : arrSize P S = some (n, e, k)) (hx : ev ρ x = some (.pointer (some ⟨b, p, none⟩))) (hy : ev ρ y = some (.int kk i))
    (hi : 0 ≤ i) (hl : i < n) : PO P (.indexAddr S x y) ρ w (.pointer (some ⟨b, p + i.toNat * k, none⟩)) := by
  intro o e' ho he
  obtain ⟨h1, inf, h2, rfl⟩ := arrSize_spec hS
  simp [execOp, ho, he _ _ hx, he _ _ hy, Instr.indexAt, asIntOf, run_underlying h1, hi, hl, sizeOf, typeInfo, h2, add_at, Instr.sureAddr]
theorem aO {T : TypeId} {x : Operand} {a : Addr} {v : Value} (hx : ev ρ x = some (.pointer (some a))) (h : (loadVar T a).run P w = .ok v w) : PO P (.load T x) ρ w v := by
  intro o e ho he
  simp [execOp, ho, he _ _ hx, Instr.loadAt, Instr.sureAddr, h]
theorem bR {T : TypeId} {k : Nat} {a : Addr} {v : Value} (hk : eK P T = some (false, k)) (hc : w.cell? a = some v) : (loadVar T a).run P w = .ok v w := by
  simp [loadVar, kind_agg hk, hc]
theorem cell_list {b p : Nat} {l : List Value} {E : TypeId} {fz : Nat × Nat} (hb : w.heap[b]? = some (.cells l.toArray E fz)) : w.cell? ⟨b, p, none⟩ = l[p]? := by
  simp [World.cell?, hb]
theorem aQ {T : TypeId} {k b p : Nat} {l : List Value} {E : TypeId} {fz : Nat × Nat} {v : Value} (hk : eK P T = some (false, k)) (hb : w.heap[b]? = some (.cells l.toArray E fz)) (hv : lget l p = some v) :
    (loadVar T ⟨b, p, none⟩).run P w = .ok v w := bR hk (by rw [cell_list hb, ← lget_eq]; exact hv)
theorem ld_agg {T : TypeId} {k b p : Nat} {l : List Value} {E : TypeId} {fz : Nat × Nat} (hk : eK P T = some (true, k)) (hb : w.heap[b]? = some (.cells l.toArray E fz)) (hl : p + k ≤ l.length) :
    (loadVar T ⟨b, p, none⟩).run P w = .ok (.agg ((l.drop p).take k).toArray) w := by
  have h := run_loadCells_list (P := P) w ⟨b, p, none⟩ ((l.drop p).take k) (fun j v hv => by
    rw [add_at, cell_list hb]
    simp only [List.getElem?_take, List.getElem?_drop] at hv
    split at hv
    · exact hv
    · cases hv)
  have hlen : ((l.drop p).take k).length = k := by simp; omega
  rw [hlen] at h
  simp [loadVar, kind_agg hk, kind_size hk, h]
theorem aP {T : TypeId} {k b : Nat} {l : List Value} {E : TypeId} {fz : Nat × Nat} (hk : eK P T = some (true, k)) (hb : w.heap[b]? = some (.cells l.toArray E fz)) (hl : l.length = k) :
    (loadVar T ⟨b, 0, none⟩).run P w = .ok (.agg l.toArray) w := by
  have := ld_agg (p := 0) hk hb (by omega)
  rw [this]
  simp [← hl]
theorem bC {T E : TypeId} {x : Operand} {a : Option Addr} {len cap : Nat} (hT : P.underlying T = some (.slice E)) (hx : ev ρ x = some (.slice a len cap)) :
    PO P (.call { callee := .builtin .len, args := #[x], argTypes := #[T] }) ρ w (.int .i64 len) := by
  intro o e ho he
  simp [execOp, ho, resolve, he _ _ hx, invoke, builtin, Builtin.len_, run_underlying hT, goInt]
theorem po_len_str {T : TypeId} {x : Operand} {s : ByteArray} (hT : P.underlying T = some .string) (hx : ev ρ x = some (.string s)) :
    PO P (.call { callee := .builtin .len, args := #[x], argTypes := #[T] }) ρ w (.int .i64 s.size) := by
  intro o e ho he
  simp [execOp, ho, resolve, he _ _ hx, invoke, builtin, Builtin.len_, run_underlying hT, goInt]
inductive Bd (ρ : Env) : Option Operand → Nat → Nat → Prop where
  | no (d : Nat) : Bd ρ none d d
  | yes {x : Operand} {k : IntKind} {i : Int} (d : Nat) (h : ev ρ x = some (.int k i)) (hi : 0 ≤ i) : Bd ρ (some x) d i.toNat
theorem bound_run {e : Operand → Value} (he : Ag ρ e) {x : Operand} {k : IntKind} {i : Int} {y : Nat} {c : BoundsCode} (h : ev ρ x = some (.int k i)) (hi : 0 ≤ i) (hy : i.toNat ≤ y) :
    (Instr.sliceBound (e x) y c).run P w = .ok i.toNat w := by
  have : i ≤ y := by omega
  simp [Instr.sliceBound, he _ _ h, asIntOf, hi, this]
theorem run_sliceBounds {e : Operand → Value} (he : Ag ρ e) {lo hi : Option Operand} {l h len cap : Nat} {isS : Bool} (hlo : Bd ρ lo 0 l) (hhi : Bd ρ hi len h) (h1 : l ≤ h) (h2 : h ≤ cap) :
    (Instr.sliceBounds isS len cap (lo.map e) (hi.map e) none).run P w = .ok (l, h, cap) w := by
  cases hlo with
  | no =>
    cases hhi with
    | no => simp [Instr.sliceBounds]
    | yes _ hx hi0 => simp [Instr.sliceBounds, bound_run he hx hi0 h2]
  | yes _ hy hj0 =>
    cases hhi with
    | no => simp [Instr.sliceBounds, bound_run he hy hj0 h1]
    | yes _ hx hi0 => simp [Instr.sliceBounds, bound_run he hx hi0 h2, bound_run he hy hj0 h1]
def sliceAddr (a : Option Addr) (l cap k : Nat) : Option Addr := if cap = l then a else a.map (·.add (l * k))
theorem po_slice {T e : TypeId} {x : Operand} {lo hi : Option Operand} {a : Option Addr} {len cap k l h : Nat} (hT : fK P T = some (e, k)) (hx : ev ρ x = some (.slice a len cap))
    (hlo : Bd ρ lo 0 l) (hhi : Bd ρ hi len h) (h1 : l ≤ h) (h2 : h ≤ cap) : PO P (.slice T x lo hi none) ρ w (.slice (sliceAddr a l cap k) (h - l) (cap - l)) := by
  intro o e' ho he
  obtain ⟨hS, i, hi', rfl⟩ := elemSize_spec hT
  simp [execOp, ho, he _ _ hx, Instr.sliceAt, Instr.slice, run_underlying hS, run_sliceBounds he hlo hhi h1 h2, sizeOf, typeInfo, hi', sliceAddr]
theorem po_slice_arr {T e : TypeId} {x : Operand} {lo hi : Option Operand} {n b p k l h : Nat} (hT : arrSize P T = some (n, e, k)) (hx : ev ρ x = some (.pointer (some ⟨b, p, none⟩)))
    (hlo : Bd ρ lo 0 l) (hhi : Bd ρ hi n h) (h1 : l ≤ h) (h2 : h ≤ n) : PO P (.slice T x lo hi none) ρ w (.slice (some ⟨b, if n = l then p else p + l * k, none⟩) (h - l) (n - l)) := by
  intro o e' ho he
  obtain ⟨hS, i, hi', rfl⟩ := arrSize_spec hT
  simp [execOp, ho, he _ _ hx, Instr.sliceAt, run_underlying hS, run_sliceBounds he hlo hhi h1 h2, sizeOf, typeInfo, hi', Instr.sureAddr, add_at]
  split <;> simp_all
theorem po_slice_str {T : TypeId} {x : Operand} {lo hi : Option Operand} {s : ByteArray} {l h : Nat} (hT : P.underlying T = some .string) (hx : ev ρ x = some (.string s))
    (hlo : Bd ρ lo 0 l) (hhi : Bd ρ hi s.size h) (h1 : l ≤ h) (h2 : h ≤ s.size) : PO P (.slice T x lo hi none) ρ w (.string (s.extract l h)) := by
  intro o e' ho he
  simp [execOp, ho, he _ _ hx, Instr.sliceAt, Instr.slice, run_underlying hT, run_sliceBounds he hlo hhi h1 h2]
theorem po_typeAssert_yes {x : Operand} {T A : TypeId} {v : Value} {d : TypeDesc} (hA : P.underlying A = some d) (hd : ∀ ms, d ≠ .interface ms) (hx : ev ρ x = some (.iface A v)) : PO P (.typeAssert x T A true) ρ w (.tuple #[v, .bool true]) := by
  intro o e ho he
  cases d with
  | interface ms => exact (hd ms rfl).elim
  | _ => simp [execOp, ho, he _ _ hx, Instr.typeAssert, run_underlying hA]
theorem po_typeAssert_no {x : Operand} {T A B : TypeId} {v z : Value} {d : TypeDesc} {i : TypeInfo} (hA : P.underlying A = some d) (hd : ∀ ms, d ≠ .interface ms) (hz : P.info? A = some i) (hz' : i.zero = some z) (hx : ev ρ x = some (.iface B v)) (hne : B ≠ A) :
    PO P (.typeAssert x T A true) ρ w (.tuple #[z, .bool false]) := by
  intro o e ho he
  cases d with
  | interface ms => exact (hd ms rfl).elim
  | _ => simp [execOp, ho, he _ _ hx, Instr.typeAssert, run_underlying hA, hne, zeroValue, typeInfo, hz, hz']
theorem zip_pairs (e : Operand → Value) : ∀ ps : List (Nat × Operand), ps.map (fun x => (x.1, e x.2)) = (ps.map (fun x => x.1)).zip (ps.map (e ∘ fun x => x.2))
  | [] => rfl
  | p :: r => by simp only [List.map_cons, List.zip_cons_cons, zip_pairs e r]; rfl
theorem bM {T : TypeId} {ps : List (Nat × Operand)} {vs : List Value} {l : List Value} (hv : evL ρ (ps.map (·.2)) = some vs) (h : P.built T ((ps.map (·.1)).zip vs) = some l.toArray) : PO P (.build T ps.toArray) ρ w (.agg l.toArray) := by
  intro o e ho he
  have h2 : ps.map (fun x => (x.1, e x.2)) = (ps.map (·.1)).zip vs := by
    have := he.list hv
    rw [← this, List.map_map]
    exact zip_pairs e ps
  have hb := run_build (P := P) w T (ps.toArray.map fun (i, x) => (i, e x)) l.toArray (by
    simpa [h2] using h)
  simp only [execOp, ho, Sem.run_bind, hb, Result.andThen_ok, Sem.run_pure]
end
end Go.Proofs.YtgpfjlfkaoffeaaGreatDoor
namespace Go.Proofs.YtgpfjlfkaoffeaaGreatDoor
open Go
def zeroL (P : Program) (T : TypeId) : Option (List Value) :=
  match P.info? T with
  | some i => match i.zero with
    | some z => some z.cells.toList
    | none => none
  | none => none
theorem zeroL_spec {P : Program} {T : TypeId} {zs : List Value} (h : zeroL P T = some zs) : ∃ i z, P.info? T = some i ∧ i.zero = some z ∧ z.cells = zs.toArray := by
  unfold zeroL at h
  split at h
  · rename_i i hi
    split at h
    · rename_i z hz
      simp at h
      exact ⟨i, z, hi, hz, by rw [← h]⟩
    · cases h
  · cases h
def Flat (l : List Value) : Prop := ∀ v ∈ l, v.oneCell' = true
theorem eQ : Flat [] := fun _ h => by cases h
theorem bX {v : Value} {l : List Value} (hv : v.oneCell' = true) (h : Flat l) : Flat (v :: l) := by
  intro u hu
  rcases List.mem_cons.1 hu with rfl | hu
  · exact hv
  · exact h u hu
theorem fD {l m : List Value} (h : Flat l) (k : Flat m) : Flat (l ++ m) := by
  intro u hu
  rcases List.mem_append.1 hu with hu | hu
  · exact h u hu
  · exact k u hu
theorem flat_rep {v : Value} (n : Nat) (h : v.oneCell' = true) : Flat (List.replicate n v) := fun u hu => by rw [(List.mem_replicate.1 hu).2]; exact h
section
variable {P : Program} {n : Nat} {ρ : Env} {w0 : Base} {w : World} {L : List (Nat × Obj)} {K : Env → World → Prop} {d : Tmp} {ty : TypeId} {pos : String} {af : Array Edge} {g : Option (Nat × Bool)}
theorem aX {T : TypeId} {zs : List Value} (hs : St w0 w L) (hz : zeroL P T = some zs) (hd : Nat.blt d n = true)
    (hk : ∀ b w', w0.heap.size ≤ b → b = w.heap.size → St w0 w' ((b, .cells zs.toArray T (0, 0)) :: L) → K (eH ρ d (.pointer (some ⟨b, 0, none⟩))) w') : OW P n ⟨some d, .alloc T, ty, pos, af, g⟩ K ρ w := by
  obtain ⟨i, z, hi, hz1, hz2⟩ := zeroL_spec hz
  refine o_val (F := fun v w' => v = .pointer (some ⟨w.heap.size, 0, none⟩) ∧ w' = w.alloc (.cells zs.toArray T)) ?_ hd ?_
  · intro o e ho he
    refine ⟨_, _, ?_, rfl, rfl⟩
    simp [execOp, ho, Instr.alloc, zeroValue, typeInfo, hi, hz1, newVar, newRow, hz2]
  · rintro v w' ⟨rfl, rfl⟩
    exact hk _ _ hs.size rfl (hs.alloc _ _)
theorem cR {T : TypeId} {x : Operand} {v : Value} {l : List Value} (hs : St w0 w L) (hx : ev ρ x = some v) (hl : v.cells = l.toArray) (hd : Nat.blt d n = true)
    (hk : ∀ b w', w0.heap.size ≤ b → b = w.heap.size → St w0 w' ((b, .cells l.toArray T (0, 0)) :: L) → K (eH ρ d (.pointer (some ⟨b, 0, none⟩))) w') : OW P n ⟨some d, .box T x, ty, pos, af, g⟩ K ρ w := by
  refine o_val (F := fun u w' => u = .pointer (some ⟨w.heap.size, 0, none⟩) ∧ w' = w.alloc (.cells l.toArray T)) ?_ hd ?_
  · intro o e ho he
    refine ⟨_, _, ?_, rfl, rfl⟩
    simp [execOp, ho, he _ _ hx, Instr.box, newVar, newRow, hl]
  · rintro v w' ⟨rfl, rfl⟩
    exact hk _ _ hs.size rfl (hs.alloc _ _)
theorem setRow_st (hs : St w0 w L) {k b : Nat} {l l' : List Value} {E : TypeId} {L' : List (Nat × Obj)} (hk : lget L k = some (b, .cells l.toArray E (0, 0)))
    (hL : lset L k (b, .cells l'.toArray E (0, 0)) = some L') : St w0 (w.setRow b l'.toArray) L' := by
  have hb := hs.get hk
  exact hs.put hk hL (bU _ _) rfl rfl rfl (setRow_size w b _) (setRow_heap w b _ _ E (0, 0) hb) (fun i hi => setRow_other w b i _ hi)
theorem run_storeOne {T : TypeId} {kk b p : Nat} {l l' : List Value} {E : TypeId} {v : Value} (hk : eK P T = some (false, kk)) (h1 : kk = 1) (hb : w.heap[b]? = some (.cells l.toArray E (0, 0))) (hl : lset l p v = some l')
    (hv : v.oneCell' = true) : (storeVar T ⟨b, p, none⟩ v).run P w = .ok () (w.setRow b l'.toArray) := by
  obtain ⟨rfl, hp⟩ := lset_eq hl
  have hc : v.cells = #[v] := by cases v <;> first | rfl | simp [Value.oneCell'] at hv
  have hst := run_storeCells_at P b p E [v] 0 l.toArray w hb (by simp; omega) (by simpa using hv)
  simp only [Nat.add_zero, List.length_singleton] at hst
  subst h1
  simp only [storeVar, hc, Sem.run_bind, kind_size hk, Result.andThen_ok]
  rw [if_neg (by simp)]
  rw [hst]
  congr 2
  have : (List.take p l ++ [v] ++ List.drop (p + 1) l) = l.set p v := by
    rw [List.set_eq_take_append_cons_drop, if_pos hp]; simp
  simp [← this]
theorem run_storeAgg {T : TypeId} {kk b p : Nat} {l vs : List Value} {E : TypeId} (hk : eK P T = some (true, kk)) (hb : w.heap[b]? = some (.cells l.toArray E (0, 0))) (hvs : vs.length = kk) (hp : p + kk ≤ l.length)
    (hf : Flat vs) : (storeVar T ⟨b, p, none⟩ (.agg vs.toArray)).run P w = .ok () (w.setRow b (l.take p ++ vs ++ l.drop (p + kk)).toArray) := by
  have hst := run_storeCells_at P b p E vs 0 l.toArray w hb (by simp; omega) hf
  simp only [Nat.add_zero, hvs] at hst
  have hsz : (Value.agg vs.toArray).cells.size = kk := by simpa [Value.cells] using hvs
  have hst' : (storeCells ⟨b, p, none⟩ (Value.agg vs.toArray).cells.toList).run P w = .ok () (w.setRow b (l.take p ++ vs ++ l.drop (p + kk)).toArray) := hst
  simp only [storeVar, Sem.run_bind, kind_size hk, Result.andThen_ok]
  rw [if_neg (by rw [hsz]; simp)]
  exact hst'
theorem aS {T : TypeId} {x y : Operand} {kk k b p : Nat} {l l' : List Value} {E : TypeId} {v : Value} {L' : List (Nat × Obj)} (hs : St w0 w L) (hT : eK P T = some (false, kk)) (h1 : kk = 1)
    (hx : ev ρ x = some (.pointer (some ⟨b, p, none⟩))) (hy : ev ρ y = some v) (hv : v.oneCell' = true) (hk : lget L k = some (b, .cells l.toArray E (0, 0))) (hl : lset l p v = some l')
    (hL : lset L k (b, .cells l'.toArray E (0, 0)) = some L') (hK : ∀ w', St w0 w' L' → K ρ w') : OW P n ⟨none, .store T x y, ty, pos, af, g⟩ K ρ w := by
  refine o_skip (F := fun w' => w' = w.setRow b l'.toArray) ?_ ?_
  · intro o e ho he
    refine ⟨_, ?_, rfl⟩
    simp [execOp, ho, he _ _ hx, he _ _ hy, Instr.storeAt, Instr.sureAddr, run_storeOne hT h1 (hs.get hk) hl hv]
  · rintro w' rfl
    exact hK _ (setRow_st hs hk hL)
theorem o_storeA {T : TypeId} {x y : Operand} {kk k b p : Nat} {l vs : List Value} {E : TypeId} {L' : List (Nat × Obj)} (hs : St w0 w L) (hT : eK P T = some (true, kk))
    (hx : ev ρ x = some (.pointer (some ⟨b, p, none⟩))) (hy : ev ρ y = some (.agg vs.toArray)) (hk : lget L k = some (b, .cells l.toArray E (0, 0))) (hvs : vs.length = kk) (hp : p + kk ≤ l.length) (hf : Flat vs)
    (hL : lset L k (b, .cells (l.take p ++ vs ++ l.drop (p + kk)).toArray E (0, 0)) = some L') (hK : ∀ w', St w0 w' L' → K ρ w') : OW P n ⟨none, .store T x y, ty, pos, af, g⟩ K ρ w := by
  refine o_skip (F := fun w' => w' = w.setRow b (l.take p ++ vs ++ l.drop (p + kk)).toArray) ?_ ?_
  · intro o e ho he
    refine ⟨_, ?_, rfl⟩
    simp only [execOp, ho, he _ _ hx, he _ _ hy, Instr.storeAt, Instr.sureAddr, Sem.run_bind, Sem.run_pure, Result.andThen_ok, run_storeAgg hT (hs.get hk) hvs hp hf]
  · rintro w' rfl
    exact hK _ (setRow_st hs hk hL)
theorem aM {T : TypeId} {x y : Operand} {kk k b : Nat} {l vs : List Value} {E : TypeId} {L' : List (Nat × Obj)} (hs : St w0 w L) (hT : eK P T = some (true, kk))
    (hx : ev ρ x = some (.pointer (some ⟨b, 0, none⟩))) (hy : ev ρ y = some (.agg vs.toArray)) (hk : lget L k = some (b, .cells l.toArray E (0, 0))) (hvs : vs.length = kk) (hl : l.length = kk) (hf : Flat vs)
    (hL : lset L k (b, .cells vs.toArray E (0, 0)) = some L') (hK : ∀ w', St w0 w' L' → K ρ w') : OW P n ⟨none, .store T x y, ty, pos, af, g⟩ K ρ w := by
  refine o_storeA (p := 0) hs hT hx hy hk hvs (by omega) hf ?_ hK
  have : (l.take 0 ++ vs ++ l.drop (0 + kk)) = vs := by simp [← hl]
  rw [this]
  exact hL
theorem dQ (k : Nat) {T : TypeId} {x y : Operand} {kk b p : Nat} {l l' : List Value} {E : TypeId} {v : Value} {L' : List (Nat × Obj)} (hs : St w0 w L) (hT : eK P T = some (false, kk)) (h1 : kk = 1)
    (hx : ev ρ x = some (.pointer (some ⟨b, p, none⟩))) (hy : ev ρ y = some v) (hv : v.oneCell' = true) (hk : lget L k = some (b, .cells l.toArray E (0, 0))) (hl : lset l p v = some l')
    (hL : lset L k (b, .cells l'.toArray E (0, 0)) = some L') (hK : ∀ w', St w0 w' L' → K ρ w') : OW P n ⟨none, .store T x y, ty, pos, af, g⟩ K ρ w := aS hs hT h1 hx hy hv hk hl hL hK
theorem dR (k : Nat) {T : TypeId} {x y : Operand} {kk b : Nat} {l vs : List Value} {E : TypeId} {L' : List (Nat × Obj)} (hs : St w0 w L) (hT : eK P T = some (true, kk))
    (hx : ev ρ x = some (.pointer (some ⟨b, 0, none⟩))) (hy : ev ρ y = some (.agg vs.toArray)) (hk : lget L k = some (b, .cells l.toArray E (0, 0))) (hvs : vs.length = kk) (hl : l.length = kk) (hf : Flat vs)
    (hL : lset L k (b, .cells vs.toArray E (0, 0)) = some L') (hK : ∀ w', St w0 w' L' → K ρ w') : OW P n ⟨none, .store T x y, ty, pos, af, g⟩ K ρ w := aM hs hT hx hy hk hvs hl hf hL hK
def eF (P : Program) (f : FuncId) : Bool :=
  match P.funcs[f]? with
  | some fn => fn.body.isSome && fn.name != "runtime.NumGoroutine"
  | none => false
theorem run_callFunc {f : FuncId} {args : Array Value} (h : eF P f = true) : (callFunc f args).run P w = .ok (.enter f args) w := by
  unfold eF at h
  split at h
  · rename_i fn hf
    simp only [Bool.and_eq_true, bne_iff_ne, ne_eq] at h
    have hb : fn.body.isNone = false := by cases hb : fn.body <;> simp_all
    simp only [callFunc, Sem.run_bind, run_program, Result.andThen_ok, hf, hb, beq_iff_eq, h.2, if_false, Bool.false_eq_true, Sem.run_pure]
  · cases h
theorem cD {x : Operand} {f : FuncId} {l : List Operand} {ts : Array TypeId} {vs : List Value} {F : Value → World → Prop} (hx : ev ρ x = some (.func (.func f) #[] #[])) (hl : evL ρ l = some vs) (hf : eF P f = true)
    (h : eC P f vs.toArray w F) : RC P (.call { callee := .value x, args := l.toArray, argTypes := ts }) ρ w F := by
  intro o e ho he
  have hm : l.toArray.map e = vs.toArray := by have := he.list hl; rw [← this]; simp
  refine ⟨f, vs.toArray, w, ?_, h⟩
  simp only [execOp, ho, resolve, he _ _ hx, Deferred.ofValue, hm, Sem.run_bind]
  simp [invoke, run_callFunc hf]
theorem aZ {ops : Array Oper} {rest : List Oper} {x : Operand} {f : FuncId} {l : List Operand} {ts : Array TypeId} {vs : List Value} {F : Value → World → Prop} (hf : eF P f = true) (hx : ev ρ x = some (.func (.func f) #[] #[])) (hl : evL ρ l = some vs)
    (h : eC P f vs.toArray w F) (hd : Nat.blt d n = true) (hk : ∀ v w', F v w' → LW P n ops rest K (eH ρ d v) w') :
    LW P n ops (⟨some d, .call { callee := .value x, args := l.toArray, argTypes := ts }, ty, pos, af, none⟩ :: rest) K ρ w :=
  aJ (cF (cD hx hl hf h) hd hk)
def Src (P : Program) (w : World) (size : Nat) (x : Value) (m : Nat) (news : List Value) : Prop :=
  (∀ w', w'.heap = w.heap → (Builtin.firstCells size m x).run P w' = .ok news.toArray w') ∧ (∀ w', (Builtin.lenOf x).run P w' = .ok m w') ∧ news.length = m * size
theorem src_slice {size b p m c : Nat} {news : List Value} (hl : news.length = m * size) (h : ∀ j v, news[j]? = some v → w.cell? ⟨b, p + j, none⟩ = some v) : Src P w size (.slice (some ⟨b, p, none⟩) m c) m news :=
  ⟨fun w' hw => by
    have := run_firstCells_some (P := P) w' size m ⟨b, p, none⟩ m c news hl (fun j v hv => by rw [add_at]; have := h j v hv; unfold World.cell? at *; rw [hw]; exact this)
    exact this, fun w' => by simp [Builtin.lenOf], hl⟩
theorem src_own (hs : St w0 w L) {size k b m c : Nat} {news : List Value} {E : TypeId} (hk : lget L k = some (b, .cells news.toArray E (0, 0))) (hl : news.length = m * size) : Src P w size (.slice (some ⟨b, 0, none⟩) m c) m news :=
  src_slice hl fun j v hv => by rw [cell_list (hs.get hk), Nat.zero_add]; exact hv
theorem src_nil {size c : Nat} : Src P w size (.slice none 0 c) 0 [] := ⟨fun w' _ => by simp [Builtin.firstCells], fun w' => by simp [Builtin.lenOf], by simp⟩
theorem src_string {s : ByteArray} : Src P w 1 (.string s) s.size (s.data.toList.map fun b => .int .u8 b.toNat) := by
  refine ⟨fun w' _ => ?_, fun w' => by simp [Builtin.lenOf], by simp⟩
  have : s.extract 0 s.size = s := by simp
  simp only [Builtin.firstCells, this, Sem.run_pure]
  congr 1
  cases s with
  | mk a => cases a; simp
structure EltOk (P : Program) (t : TypeId) (e : TypeId) (size bytes : Nat) (zs : List Value) : Prop where
  under : P.underlying t = some (.slice e)
  info : ∃ i z, P.info? e = some i ∧ i.size = size ∧ i.bytes = bytes ∧ i.zero = some z ∧ z.cells = zs.toArray
  pos : 0 < size
  zlen : zs.length = size
def eltOk (P : Program) (t : TypeId) : Option (TypeId × Nat × Nat × List Value) :=
  match P.underlying t with
  | some (.slice e) => match P.info? e with
    | some i => match i.zero with
      | some z => if i.size = 0 then none else if z.cells.size = i.size then some (e, i.size, i.bytes, z.cells.toList) else none
      | none => none
    | none => none
  | _ => none
theorem eltOk_spec {t e : TypeId} {size bytes : Nat} {zs : List Value} (h : eltOk P t = some (e, size, bytes, zs)) : EltOk P t e size bytes zs := by
  unfold eltOk at h
  split at h
  · rename_i e' ht
    split at h
    · rename_i i hi
      split at h
      · rename_i z hz
        split at h
        · cases h
        · rename_i h0
          split at h
          · rename_i hz2
            simp at h
            obtain ⟨rfl, rfl, rfl, rfl⟩ := h
            exact ⟨ht, ⟨i, z, hi, rfl, rfl, hz, by simp⟩, by omega, by simpa using hz2⟩
          · cases h
      · cases h
    · cases h
  · cases h
def SS (P : Program) (u : TypeId) : Prop := P.underlying u = some .string ∨ ∃ e, P.underlying u = some (.slice e)
theorem run_append_in {t u e : TypeId} {size bytes : Nat} {zs : List Value} (ht : EltOk P t e size bytes zs) (hu : SS P u) {b p sLen c m : Nat} {l news : List Value} {E : TypeId} {x : Value}
    (hb : w.heap[b]? = some (.cells l.toArray E (0, 0))) (hx : Src P w size x m news) (hf : Flat news) (hroom : sLen + m ≤ c) (hfit : p + sLen * size + m * size ≤ l.length) :
    (Builtin.append_ #[t, u] ty #[.slice (some ⟨b, p, none⟩) sLen c, x]).run P w =
      .ok (.slice (some ⟨b, p, none⟩) (sLen + m) c) (w.setRow b (l.take (p + sLen * size) ++ news ++ l.drop (p + sLen * size + m * size)).toArray) := by
  obtain ⟨h1, h2, h3⟩ := hx
  obtain ⟨i, z, hi, rfl, rfl, hz, hz2⟩ := ht.info
  have hst := run_storeCells_at P b (p + sLen * i.size) E news 0 l.toArray w hb (by rw [h3]; simpa using hfit) hf
  simp only [Nat.add_zero, h3] at hst
  have h1' := h1 w rfl
  have hsz : (sizeOf e).run P w = .ok i.size w := by simp [sizeOf, typeInfo, hi]
  have e0 : (#[t, u] : Array TypeId)[0]? = some t := rfl
  have e1 : (#[t, u] : Array TypeId)[1]? = some u := rfl
  have v0 : (#[.slice (some ⟨b, p, none⟩) sLen c, x] : Array Value)[0]? = some (.slice (some ⟨b, p, none⟩) sLen c) := rfl
  have v1 : (#[.slice (some ⟨b, p, none⟩) sLen c, x] : Array Value)[1]? = some x := rfl
  rcases hu with hu | ⟨e', hu⟩ <;>
    simp only [Builtin.append_, e0, e1, v0, v1, Sem.run_bind, run_underlying ht.under, run_underlying hu, Result.andThen_ok, hsz, Bool.false_eq_true, if_false, h2, hroom, if_true, Bool.not_false, h1', add_at, hst, Sem.run_pure]
theorem run_append_out {t u e : TypeId} {size bytes : Nat} {zs : List Value} (ht : EltOk P t e size bytes zs) (hu : SS P u) {a : Option Addr} {sLen c m : Nat} {olds news : List Value} {x : Value}
    (ho : ∀ w', w'.heap = w.heap → (Builtin.firstCells size sLen (.slice a sLen c)).run P w' = .ok olds.toArray w') (hx : Src P w size x m news) (hroom : c < sLen + m) (hbytes : (sLen + m) * bytes ≤ 140737488355328)
    (h63 : sLen + m ≤ 9223372036854775807) :
    ∃ cap, sLen + m ≤ cap ∧ cap ≤ maxLen ∧ (Builtin.append_ #[t, u] ty #[.slice a sLen c, x]).run P w =
      .ok (.slice (some ⟨w.heap.size, 0, none⟩) (sLen + m) cap) (w.drew.alloc (.cells (olds ++ news ++ (Builtin.zeroCells zs.toArray (cap - (sLen + m))).toList).toArray e)) := by
  obtain ⟨h1, h2, h3⟩ := hx
  obtain ⟨i, z, hi, rfl, rfl, hz, hz2⟩ := ht.info
  refine ⟨grownCap w (sLen + m) c e, grownCap_ge w _ _ _, grownCap_le_maxLen w _ _ _ (by unfold maxLen; omega), ?_⟩
  have hr : ¬ (sLen + m ≤ c) := by omega
  have hfits := growslice_fits (need := sLen + m) (old := c) (bytes := i.bytes) hroom hbytes
  have hb0 : ¬ (((sLen + m : Nat) : Int) > IntKind.i64.max ∧ (False ∨ i.bytes = 0)) := by
    have : IntKind.i64.max = 9223372036854775807 := rfl
    rw [this]; omega
  have hb1 : ¬ ((((sLen + m : Nat) : Int) > IntKind.i64.max) ∧ (i.bytes = 0)) := by
    have : IntKind.i64.max = 9223372036854775807 := rfl
    rw [this]; omega
  have hn2 : ¬ (Builtin.nextslicecap (sLen + m) c * i.bytes > 2 ^ 48) := by omega
  have hsz : (sizeOf e).run P w = .ok i.size w := by simp [sizeOf, typeInfo, hi]
  have htI : ∀ w', (typeInfo e).run P w' = .ok i w' := fun w' => by simp [typeInfo, hi]
  have hzv : ∀ w', (zeroValue e).run P w' = .ok z w' := fun w' => by simp [zeroValue, htI, hz]
  have e0 : (#[t, u] : Array TypeId)[0]? = some t := rfl
  have e1 : (#[t, u] : Array TypeId)[1]? = some u := rfl
  have v0 : (#[.slice a sLen c, x] : Array Value)[0]? = some (.slice a sLen c) := rfl
  have v1 : (#[.slice a sLen c, x] : Array Value)[1]? = some x := rfl
  have hch : (choose (.appendCap (sLen + m) c e)).run P w = .ok (grownCap w (sLen + m) c e) w.drew := by
    simp [Question.forced, grownCap]
  rcases hu with hu | ⟨e', hu⟩ <;>
    simp only [Builtin.append_, e0, e1, v0, v1, Sem.run_bind, run_underlying ht.under, run_underlying hu, Result.andThen_ok, hsz, Bool.false_eq_true, if_false, h2, hr, htI, false_or, hb1, hn2, hch, Bool.not_false, if_true,
      ho w.drew rfl, h1 w.drew rfl, hzv, run_askRoom, Sem.run_pure, newRow, run_newObj, hz2] <;>
    (simp [World.alloc]; congr 2; apply Array.ext'; simp)
end
end Go.Proofs.YtgpfjlfkaoffeaaGreatDoor

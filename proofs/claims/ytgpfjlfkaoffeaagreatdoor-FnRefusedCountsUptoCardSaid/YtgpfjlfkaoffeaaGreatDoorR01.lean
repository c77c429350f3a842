/- The proof layer of this claim, first part: frames as partial functions from slots to values, and the rules for control. The proof layer of this claim, second part: memory as a list of owned blocks, and the rules for operations that give a value and leave the world alone. -/
import Derived.WalkKit
import Derived.Deep.LoopGhost
import Derived.Deep.Quiet
import Derived.Scope
set_option linter.all false
namespace Go.Proofs.YtgpfjlfkaoffeaaGreatDoor
open Go
abbrev Env := Nat → Option Value
def emp : Env := fun _ => none
def eH (ρ : Env) (d : Nat) (v : Value) : Env := fun i => bif Nat.beq i d then some v else ρ i
def ev (ρ : Env) : Operand → Option Value
  | .tmp t => ρ t
  | .const v => some v
  | .global g => some (.pointer (some ⟨g, 0, none⟩))
  | .func f => some (.func (.func f) #[] #[])
def evL (ρ : Env) : List Operand → Option (List Value)
  | [] => some []
  | x :: r => match ev ρ x, evL ρ r with
    | some v, some vs => some (v :: vs)
    | _, _ => none
structure Fr (n : Nat) (a : Act) (ρ : Env) : Prop where
  nodef : a.defers = []
  size : a.tmps.size = n
  get : ∀ t v, ρ t = some v → a.tmps[t]? = some v
def Ag (ρ : Env) (e : Operand → Value) : Prop := ∀ x u, ev ρ x = some u → e x = u
theorem Fr.ag {n : Nat} {a : Act} {ρ : Env} (h : Fr n a ρ) : Ag ρ a.eval := by
  intro x v hx
  cases x with
  | tmp t => have := h.get _ _ hx; simp [Act.eval, this]
  | const v' => simpa [ev, Act.eval] using hx
  | global g => simpa [ev, Act.eval] using hx
  | func f => simpa [ev, Act.eval] using hx
theorem Ag.list {ρ : Env} {e : Operand → Value} (h : Ag ρ e) : ∀ {l : List Operand} {vs : List Value}, evL ρ l = some vs → l.map e = vs
  | [], vs, hl => by simp [evL] at hl; simp [hl]
  | x :: r, vs, hl => by
    simp only [evL] at hl
    split at hl
    · rename_i v vs' hv hvs
      simp at hl
      subst hl
      simp [h x v hv, h.list hvs]
    · simp at hl
theorem upd_same (ρ : Env) (d : Nat) (v : Value) : eH ρ d v d = some v := by simp [eH]
theorem upd_other (ρ : Env) (d t : Nat) (v : Value) (h : t ≠ d) : eH ρ d v t = ρ t := by
  have : Nat.beq t d = false := by cases hb : Nat.beq t d with | false => rfl | true => exact (h (Nat.eq_of_beq_eq_true hb)).elim
  simp [eH, this]
theorem Fr.put {n : Nat} {a : Act} {ρ : Env} {d : Nat} {v : Value} (h : Fr n a ρ) (hd : Nat.blt d n = true) : Fr n (a.put (some d) v) (eH ρ d v) := by
  have hdn : d < a.tmps.size := by rw [h.size]; simpa using hd
  refine ⟨h.nodef, by simp [Act.put, h.size], fun t u ht => ?_⟩
  by_cases htd : t = d
  · subst htd
    rw [upd_same] at ht
    simp at ht
    subst ht
    simp [Act.put, hdn]
  · rw [upd_other _ _ _ _ htd] at ht
    have := h.get _ _ ht
    simp only [Act.put]
    rw [Array.getElem?_setIfInBounds_ne (Ne.symm htd)]
    exact this
theorem Fr.put_none {n : Nat} {a : Act} {ρ : Env} {v : Value} (h : Fr n a ρ) : Fr n (a.put none v) ρ := h
def Sub (ρ' ρ : Env) : Prop := ∀ t v, ρ' t = some v → ρ t = some v
theorem Sub.refl (ρ : Env) : Sub ρ ρ := fun _ _ h => h
theorem bG (ρ : Env) : Sub emp ρ := fun _ _ h => by cases h
theorem aL {ρ' ρ : Env} {d : Nat} {v : Value} (h : ρ d = some v) (hs : Sub ρ' ρ) : Sub (eH ρ' d v) ρ := by
  intro t u ht
  by_cases htd : t = d
  · subst htd; rw [upd_same] at ht; rw [h]; exact ht
  · rw [upd_other _ _ _ _ htd] at ht; exact hs t u ht
theorem Fr.mono {n : Nat} {a : Act} {ρ ρ' : Env} (h : Fr n a ρ) (hs : Sub ρ' ρ) : Fr n a ρ' := ⟨h.nodef, h.size, fun t v ht => h.get t v (hs t v ht)⟩
abbrev QE := Exit → Env → World → Prop
def liftQ (n : Nat) (Q : QE) : Exit → Act → World → Prop := fun e a w => ∃ ρ, Fr n a ρ ∧ Q e ρ w
@[irreducible] def EW (P : Program) (n : Nat) (c : Code) (Q : QE) (ρ : Env) (w : World) : Prop := ∀ a, Fr n a ρ → c.wp P (liftQ n Q) a w
@[reducible] def thenQ (K : Env → World → Prop) (Q : QE) : QE
  | .normal, ρ, w => K ρ w
  | e, ρ, w => Q e ρ w
@[reducible] def inBlockQ (id : Nat) (Q : QE) : QE
  | .exit i, ρ, w => bif Nat.beq i id then Q .normal ρ w else Q (.exit i) ρ w
  | e, ρ, w => Q e ρ w
@[reducible] def noGotoQ (Q : QE) : QE
  | .goto _, _, _ => False
  | e, ρ, w => Q e ρ w
section
variable {P : Program} {n : Nat} {Q : QE} {ρ : Env} {w : World}
theorem EW.weaken {c : Code} {ρ' : Env} (hs : Sub ρ' ρ) (h : EW P n c Q ρ' w) : EW P n c Q ρ w := by
  unfold EW at *
  exact fun a ha => h a (ha.mono hs)
theorem EW.mono {c : Code} {Q' : QE} (h : EW P n c Q ρ w) (hq : ∀ e ρ w, Q e ρ w → Q' e ρ w) : EW P n c Q' ρ w := by
  unfold EW at *
  exact fun a ha => wp_mono (h a ha) fun _ _ _ ⟨ρ', hf, q⟩ => ⟨ρ', hf, hq _ _ _ q⟩
theorem aF {x y : Code} (h : EW P n x (thenQ (EW P n y Q) Q) ρ w) : EW P n (.seq x y) Q ρ w := by
  unfold EW at *
  intro a ha
  refine wp_seq (wp_mono (h a ha) ?_)
  rintro e a' w' ⟨ρ', hf, q⟩
  cases e with
  | normal => exact q a' hf
  | exit id => exact ⟨ρ', hf, q⟩
  | goto l => exact ⟨ρ', hf, q⟩
  | ret => exact ⟨ρ', hf, q⟩
  | panic c => exact ⟨ρ', hf, q⟩
  | outgrown => exact ⟨ρ', hf, q⟩
theorem aW (h : Q .normal ρ w) : EW P n .skip Q ρ w := by
  unfold EW; exact fun _ ha => wp_skip ⟨ρ, ha, h⟩
theorem e_label {l : Nat} (h : Q .normal ρ w) : EW P n (.label l) Q ρ w := by
  unfold EW; exact fun _ ha => wp_label ⟨ρ, ha, h⟩
theorem eT {id : Nat} (h : Q (.exit id) ρ w) : EW P n (.exit id) Q ρ w := by
  unfold EW; exact fun _ ha => wp_exit ⟨ρ, ha, h⟩
theorem aV (h : Q .ret ρ w) : EW P n .ret Q ρ w := by
  unfold EW; exact fun _ ha => wp_ret ⟨ρ, ha, h⟩
theorem bJ {c : Operand} {x y : Code} {t : Bool} (hc : ev ρ c = some (.bool t)) (ht : t = true → EW P n x Q ρ w) (hf : t = false → EW P n y Q ρ w) :
    EW P n (.cond c x y) Q ρ w := by
  unfold EW at *
  exact fun a ha => wp_cond_split (ha.ag _ _ hc) (fun h => ht h a ha) (fun h => hf h a ha)
theorem bH {c : Operand} {x y : Code} {p : Prop} [Decidable p] (hc : ev ρ c = some (.bool (decide p))) (ht : p → EW P n x Q ρ w) (hf : ¬ p → EW P n y Q ρ w) :
    EW P n (.cond c x y) Q ρ w := bJ hc (fun h => ht (of_decide_eq_true h)) (fun h => hf (of_decide_eq_false h))
theorem cO {c : Operand} {x y : Code} {t : Bool} (hc : ev ρ c = some (.bool t)) (ht : t = true) (h : EW P n x Q ρ w) : EW P n (.cond c x y) Q ρ w :=
  bJ hc (fun _ => h) (fun hf => by rw [ht] at hf; cases hf)
theorem aY {c : Operand} {x y : Code} {t : Bool} (hc : ev ρ c = some (.bool t)) (ht : t = false) (h : EW P n y Q ρ w) : EW P n (.cond c x y) Q ρ w :=
  bJ hc (fun hf => by rw [ht] at hf; cases hf) (fun _ => h)
theorem bQ {id : Nat} {c : Code} (h : EW P n c (inBlockQ id Q) ρ w) : EW P n (.block id c) Q ρ w := by
  unfold EW at *
  intro a ha
  refine wp_block (wp_mono (h a ha) ?_)
  rintro e a' w' ⟨ρ', hf, q⟩
  cases e with
  | exit i =>
    by_cases hi : i = id
    · subst hi
      simp only [Exit.inBlock, if_true]
      exact ⟨ρ', hf, by simpa [inBlockQ] using q⟩
    · have hb : Nat.beq i id = false := by cases hb : Nat.beq i id with | false => rfl | true => exact (hi (Nat.eq_of_beq_eq_true hb)).elim
      simp only [Exit.inBlock, hi, if_false]
      exact ⟨ρ', hf, by simpa [inBlockQ, hb] using q⟩
  | normal => exact ⟨ρ', hf, q⟩
  | goto l => exact ⟨ρ', hf, q⟩
  | ret => exact ⟨ρ', hf, q⟩
  | panic c => exact ⟨ρ', hf, q⟩
  | outgrown => exact ⟨ρ', hf, q⟩
theorem e_scope {c : Code} (h : EW P n c (noGotoQ Q) ρ w) : EW P n (.scope c) Q ρ w := by
  unfold EW at *
  intro a ha
  refine wp_scope_straight (wp_mono (h a ha) ?_)
  rintro e a' w' ⟨ρ', hf, q⟩
  cases e with
  | goto l => exact q.elim
  | normal => exact ⟨ρ', hf, q⟩
  | exit i => exact ⟨ρ', hf, q⟩
  | ret => exact ⟨ρ', hf, q⟩
  | panic c => exact ⟨ρ', hf, q⟩
  | outgrown => exact ⟨ρ', hf, q⟩
theorem dC {c : Code} {G : Type} (E : G → Env) (R : G → World → Prop) (m : G → Nat) (g0 : G) (h0 : Sub (E g0) ρ) (hR : R g0 w)
    (round : ∀ g w, R g w → EW P n c (thenQ (fun ρ' w' => ∃ g', Sub (E g') ρ' ∧ R g' w' ∧ m g' < m g) Q) (E g) w) : EW P n (.loop c) Q ρ w := by
  unfold EW at *
  intro a ha
  refine wp_loop_ghost (fun k a' w' => ∃ g, Fr n a' (E g) ∧ R g w' ∧ m g = k) (m g0) ⟨g0, ha.mono h0, hR, rfl⟩ ?_
  rintro k a' w' ⟨g, hf, hr, rfl⟩
  refine wp_mono (round g w' hr a' hf) ?_
  rintro e a2 w2 ⟨ρ2, hf2, q⟩
  cases e with
  | normal =>
    obtain ⟨g', hs, hr', hlt⟩ := q
    exact ⟨m g', hlt, g', hf2.mono hs, hr', rfl⟩
  | exit i => exact ⟨ρ2, hf2, q⟩
  | goto l => exact ⟨ρ2, hf2, q⟩
  | ret => exact ⟨ρ2, hf2, q⟩
  | panic c => exact ⟨ρ2, hf2, q⟩
  | outgrown => exact ⟨ρ2, hf2, q⟩
end
@[irreducible] def OW (P : Program) (n : Nat) (o : Oper) (K : Env → World → Prop) (ρ : Env) (w : World) : Prop :=
  ∀ a Q next, Fr n a ρ → (∀ a' w', (∃ ρ', Fr n a' ρ' ∧ K ρ' w') → next a' w') → o.wp P a w next Q
@[irreducible] def LW (P : Program) (n : Nat) (ops : Array Oper) (l : List Oper) (K : Env → World → Prop) (ρ : Env) (w : World) : Prop :=
  ∀ a Q, Fr n a ρ → (∀ a' w', (∃ ρ', Fr n a' ρ' ∧ K ρ' w') → Q Exit.normal a' w') → wpList P ops Q l a w
section
variable {P : Program} {n : Nat} {ρ : Env} {w : World}
theorem aB {id : Nat} {l : List Oper} {Q : QE} (h : LW P n l.toArray l (fun ρ' w' => Q .normal ρ' w') ρ w) : EW P n (.region id l.toArray false) Q ρ w := by
  unfold EW
  unfold LW at h
  exact fun a ha => wp_region_lit (h a _ ha fun _ _ ⟨ρ', hf, k⟩ => ⟨ρ', hf, k⟩)
theorem dP {id : Nat} {l : List Oper} {y : Code} {Q : QE} (h : LW P n l.toArray l (fun ρ' w' => thenQ (EW P n y Q) Q .normal ρ' w') ρ w) : EW P n (.seq (.region id l.toArray false) y) Q ρ w := aF (aB h)
variable {K : Env → World → Prop} {ops : Array Oper}
theorem aH (h : K ρ w) : LW P n ops [] K ρ w := by
  unfold LW
  exact fun a _ ha hk => wpList_nil (hk a w ⟨ρ, ha, h⟩)
theorem aJ {d : Option Tmp} {op : Op} {ty : TypeId} {pos : String} {af : Array Edge} {rest : List Oper}
    (h : OW P n ⟨d, op, ty, pos, af, none⟩ (fun ρ' w' => LW P n ops rest K ρ' w') ρ w) : LW P n ops (⟨d, op, ty, pos, af, none⟩ :: rest) K ρ w := by
  unfold OW at h
  unfold LW at *
  intro a Q ha hk
  refine wpList_plain rfl fun K' hK' => ?_
  refine h a Q K' ha ?_
  rintro a' w' ⟨ρ', hf, hl⟩
  exact hK' a' w' (hl a' Q hf hk)
theorem OW.mono {o : Oper} {K' : Env → World → Prop} (h : OW P n o K ρ w) (hk : ∀ ρ w, K ρ w → K' ρ w) : OW P n o K' ρ w := by
  unfold OW at *
  exact fun a Q next ha hn => h a Q next ha fun a' w' ⟨ρ', hf, k⟩ => hn a' w' ⟨ρ', hf, hk _ _ k⟩
def guardOf (ops : Array Oper) (j : Nat) : Option Tmp := (ops[j]?).bind (·.dst)
theorem wanted_of {a : Act} {j t : Nat} {b want : Bool} {o : Oper} (ha : Fr n a ρ) (hg : o.guard = some (j, want)) (hj : guardOf ops j = some t) (ht : ρ t = some (.bool b)) :
    Region.wanted o (yielded ops a.tmps) = (b == want) := by
  have h := ha.get _ _ ht
  unfold guardOf at hj
  simp only [Region.wanted, hg, yielded, hj, Option.bind_some, h]
  cases b <;> cases want <;> rfl
theorem cX {d : Option Tmp} {op : Op} {ty : TypeId} {pos : String} {af : Array Edge} {rest : List Oper} {j t : Nat} {b want : Bool}
    (hj : guardOf ops j = some t) (ht : ρ t = some (.bool b)) (hb : b = want)
    (h : OW P n ⟨d, op, ty, pos, af, some (j, want)⟩ (fun ρ' w' => LW P n ops rest K ρ' w') ρ w) : LW P n ops (⟨d, op, ty, pos, af, some (j, want)⟩ :: rest) K ρ w := by
  unfold OW at h
  unfold LW at *
  intro a Q ha hk
  refine wpList_step fun K' hK' => ?_
  rw [if_pos (by rw [wanted_of (ops := ops) (b := b) (o := ⟨d, op, ty, pos, af, some (j, want)⟩) ha rfl hj ht]; simp [hb])]
  refine h a Q K' ha ?_
  rintro a' w' ⟨ρ', hf, hl⟩
  exact hK' a' w' (hl a' Q hf hk)
theorem aU {d : Tmp} {op : Op} {ty : TypeId} {pos : String} {af : Array Edge} {rest : List Oper} {j t : Nat} {b want : Bool}
    (hj : guardOf ops j = some t) (ht : ρ t = some (.bool b)) (hb : b = !want) (hd : Nat.blt d n = true)
    (h : LW P n ops rest K (eH ρ d undef) w) : LW P n ops (⟨some d, op, ty, pos, af, some (j, want)⟩ :: rest) K ρ w := by
  unfold LW at *
  intro a Q ha hk
  refine wpList_step fun K' hK' => ?_
  rw [if_neg (by rw [wanted_of (ops := ops) (b := b) (o := ⟨some d, op, ty, pos, af, some (j, want)⟩) ha rfl hj ht]; subst hb; cases want <;> simp)]
  exact hK' _ _ (h _ Q (ha.put hd) hk)
def PO (P : Program) (op : Op) (ρ : Env) (w : World) (v : Value) : Prop := ∀ (o : Oper) (e : Operand → Value), o.op = op → Ag ρ e → (execOp e o).run P w = .ok (.value v) w
def RV (P : Program) (op : Op) (ρ : Env) (w : World) (F : Value → World → Prop) : Prop :=
  ∀ (o : Oper) (e : Operand → Value), o.op = op → Ag ρ e → ∃ v w', (execOp e o).run P w = .ok (.value v) w' ∧ F v w'
def RS (P : Program) (op : Op) (ρ : Env) (w : World) (F : World → Prop) : Prop :=
  ∀ (o : Oper) (e : Operand → Value), o.op = op → Ag ρ e → ∃ w', (execOp e o).run P w = .ok .skip w' ∧ F w'
def eC (P : Program) (f : FuncId) (args : Array Value) (w : World) (F : Value → World → Prop) : Prop :=
  Calls P f args w fun e w' => ∃ v, e = .returned v ∧ F v w'
def RC (P : Program) (op : Op) (ρ : Env) (w : World) (F : Value → World → Prop) : Prop :=
  ∀ (o : Oper) (e : Operand → Value), o.op = op → Ag ρ e → ∃ f args w1, (execOp e o).run P w = .ok (.enter f args) w1 ∧ eC P f args w1 F
theorem eC.mono {f : FuncId} {args : Array Value} {F F' : Value → World → Prop} (h : eC P f args w F) (hf : ∀ v w', F v w' → F' v w') : eC P f args w F' :=
  Calls.mono h fun _ _ ⟨v, he, hv⟩ => ⟨v, he, hf _ _ hv⟩
theorem o_pure {d : Tmp} {op : Op} {ty : TypeId} {pos : String} {af : Array Edge} {g : Option (Nat × Bool)} {v : Value} (h : PO P op ρ w v) (hd : Nat.blt d n = true) (hk : K (eH ρ d v) w) :
    OW P n ⟨some d, op, ty, pos, af, g⟩ K ρ w := by
  unfold OW
  intro a Q next ha hn
  unfold Oper.wp
  rw [h _ a.eval rfl ha.ag]
  exact hn _ _ ⟨_, ha.put hd, hk⟩
theorem o_val {d : Tmp} {op : Op} {ty : TypeId} {pos : String} {af : Array Edge} {g : Option (Nat × Bool)} {F : Value → World → Prop} (h : RV P op ρ w F) (hd : Nat.blt d n = true)
    (hk : ∀ v w', F v w' → K (eH ρ d v) w') : OW P n ⟨some d, op, ty, pos, af, g⟩ K ρ w := by
  unfold OW
  intro a Q next ha hn
  obtain ⟨v, w', hr, hF⟩ := h ⟨some d, op, ty, pos, af, g⟩ a.eval rfl ha.ag
  unfold Oper.wp
  rw [hr]
  exact hn _ _ ⟨_, ha.put hd, hk _ _ hF⟩
theorem o_skip {op : Op} {ty : TypeId} {pos : String} {af : Array Edge} {g : Option (Nat × Bool)} {F : World → Prop} (h : RS P op ρ w F)
    (hk : ∀ w', F w' → K ρ w') : OW P n ⟨none, op, ty, pos, af, g⟩ K ρ w := by
  unfold OW
  intro a Q next ha hn
  obtain ⟨w', hr, hF⟩ := h ⟨none, op, ty, pos, af, g⟩ a.eval rfl ha.ag
  unfold Oper.wp
  rw [hr]
  exact hn _ _ ⟨_, ha.put_none, hk _ hF⟩
theorem cF {d : Tmp} {op : Op} {ty : TypeId} {pos : String} {af : Array Edge} {g : Option (Nat × Bool)} {F : Value → World → Prop} (h : RC P op ρ w F) (hd : Nat.blt d n = true)
    (hk : ∀ v w', F v w' → K (eH ρ d v) w') : OW P n ⟨some d, op, ty, pos, af, g⟩ K ρ w := by
  unfold OW
  intro a Q next ha hn
  obtain ⟨f, args, w1, hr, hc⟩ := h ⟨some d, op, ty, pos, af, g⟩ a.eval rfl ha.ag
  unfold Oper.wp
  rw [hr]
  refine Calls.mono hc ?_
  rintro e w2 ⟨v, rfl, hF⟩
  exact hn _ _ ⟨_, ha.put hd, hk _ _ hF⟩
end
def rvIs (P : Program) (ρ : Env) (w : World) : ResultVar → Value → Prop
  | .tmp t, v => ρ t = some v
  | .cell t ty, v => ∃ a, ρ t = some (.pointer (some a)) ∧ (loadVar ty a).run P w = .ok v w
@[irreducible] def ResV (P : Program) (ρ : Env) (w : World) (rs : Array ResultVar) (v : Value) : Prop :=
  ∀ n a fn, Fr n a ρ → fn.results = rs → (results fn a.tmps).run P w = .ok v w
@[reducible] def postQ (P : Program) (rs : Array ResultVar) (F : Value → World → Prop) : QE
  | .ret, ρ, w => ∃ v, ResV P ρ w rs v ∧ F v w
  | .normal, ρ, w => ∃ v, ResV P ρ w rs v ∧ F v w
  | _, _, _ => False
section
variable {P : Program} {ρ : Env} {w : World}
theorem rv_tmp {a : Act} {n : Nat} (ha : Fr n a ρ) {t : Tmp} {v : Value} (h : rvIs P ρ w (.tmp t) v) : a.tmps[t]?.getD undef = v := by
  have := ha.get _ _ h; simp [this]
theorem rv_cell {a : Act} {n : Nat} (ha : Fr n a ρ) {t : Tmp} {ty : TypeId} {v : Value} (h : rvIs P ρ w (.cell t ty) v) :
    ∃ p, a.tmps[t]?.getD undef = .pointer (some p) ∧ (loadVar ty p).run P w = .ok v w := by
  obtain ⟨p, hp, hl⟩ := h
  have := ha.get _ _ hp
  exact ⟨p, by simp [this], hl⟩
theorem res0 : ResV P ρ w #[] (.tuple #[]) := by
  unfold ResV
  intro n a fn ha hr
  simp [results, hr]
theorem fW {r : ResultVar} {v : Value} (h : rvIs P ρ w r v) : ResV P ρ w #[r] v := by
  unfold ResV
  intro n a fn ha hr
  cases r with
  | tmp t => have := rv_tmp ha h; simp [results, hr, this]
  | cell t ty => obtain ⟨p, h1, h2⟩ := rv_cell ha h; simp [results, hr, h1, h2, asAddr]
theorem fX {r s : ResultVar} {v u : Value} (h : rvIs P ρ w r v) (k : rvIs P ρ w s u) : ResV P ρ w #[r, s] (.tuple #[v, u]) := by
  unfold ResV
  intro n a fn ha hr
  cases r with
  | tmp t =>
    have h1 := rv_tmp ha h
    cases s with
    | tmp t' => have h2 := rv_tmp ha k; simp [results, hr, h1, h2]
    | cell t' ty' => obtain ⟨p, k1, k2⟩ := rv_cell ha k; simp [results, hr, h1, k1, k2, asAddr]
  | cell t ty =>
    obtain ⟨p, h1, h2⟩ := rv_cell ha h
    cases s with
    | tmp t' => have k1 := rv_tmp ha k; simp [results, hr, h1, h2, k1, asAddr]
    | cell t' ty' => obtain ⟨p', k1, k2⟩ := rv_cell ha k; simp [results, hr, h1, h2, k1, k2, asAddr]
theorem res3 {r : ResultVar} {s t : Tmp} {v u x : Value} (h : rvIs P ρ w r v) (k : rvIs P ρ w (.tmp s) u) (l : rvIs P ρ w (.tmp t) x) : ResV P ρ w #[r, .tmp s, .tmp t] (.tuple #[v, u, x]) := by
  unfold ResV
  intro n a fn ha hr
  have h2 := rv_tmp ha k
  have h3 := rv_tmp ha l
  cases r with
  | tmp t => have h1 := rv_tmp ha h; simp [results, hr, h1, h2, h3]
  | cell t ty => obtain ⟨p, h1, h1'⟩ := rv_cell ha h; simp [results, hr, h1, h1', h2, h3, asAddr]
def envF : Nat → List Value → Env
  | _, [] => emp
  | i, v :: r => eH (envF (i + 1) r) i v
theorem envF_get : ∀ (l : List Value) (i t : Nat) (v : Value), envF i l t = some v → i ≤ t ∧ l[t - i]? = some v
  | [], _, _, _, h => by cases h
  | x :: r, i, t, v, h => by
    simp only [envF] at h
    by_cases hti : t = i
    · subst hti; rw [upd_same] at h; exact ⟨Nat.le_refl _, by simpa using h⟩
    · rw [upd_other _ _ _ _ hti] at h
      obtain ⟨h1, h2⟩ := envF_get r (i + 1) t v h
      refine ⟨by omega, ?_⟩
      have : t - i = (t - (i + 1)) + 1 := by omega
      rw [this]
      simpa using h2
theorem calls_intro {f : FuncId} {fn : Func} {c : Code} {F : Value → World → Prop} (hf : P.funcs[f]? = some fn) (hb : fn.body = some c) (l : List Value)
    (hl : Nat.ble l.length fn.ntmps = true) (h : EW P fn.ntmps c (postQ P fn.results F) (envF 0 l) w) : eC P f l.toArray w F := by
  have hl' : l.length ≤ fn.ntmps := by simpa using hl
  refine calls_of_wp hf hb ?_
  unfold EW at h
  refine wp_mono (h _ ⟨rfl, by simp; omega, fun t v ht => ?_⟩) ?_
  · obtain ⟨_, h2⟩ := envF_get l 0 t v ht
    simp only [Nat.sub_zero] at h2
    have hlt : t < l.length := by
      rcases Nat.lt_or_ge t l.length with h' | h'
      · exact h'
      · simp [List.getElem?_eq_none h'] at h2
    simp only []
    rw [Array.getElem?_append_left (by simpa using hlt)]
    simpa using h2
  · rintro e a' w' ⟨ρ', hf', q⟩
    cases e with
    | normal => obtain ⟨v, hv, hF⟩ := q; unfold ResV at hv; exact ⟨hf'.nodef, v, hv _ a' fn hf' rfl, v, rfl, hF⟩
    | ret => obtain ⟨v, hv, hF⟩ := q; unfold ResV at hv; exact ⟨hf'.nodef, v, hv _ a' fn hf' rfl, v, rfl, hF⟩
    | exit i => exact q.elim
    | goto l => exact q.elim
    | panic c => exact q.elim
    | outgrown => exact q.elim
theorem aT {f : FuncId} {fn : Func} {c : Code} {F : Value → World → Prop} {n : Nat} {rs : Array ResultVar} (l : List Value) (hf : P.funcs[f]? = some fn) (hn : fn.ntmps = n) (hr : fn.results = rs) (hb : fn.body = some c)
    (hl : Nat.ble l.length n = true) (h : EW P n c (postQ P rs F) (envF 0 l) w) : eC P f l.toArray w F := by
  subst hn hr
  exact calls_intro hf hb l hl h
end
end Go.Proofs.YtgpfjlfkaoffeaaGreatDoor
namespace Go.Proofs.YtgpfjlfkaoffeaaGreatDoor
open Go
def lget {α : Type} : List α → Nat → Option α
  | [], _ => none
  | x :: _, 0 => some x
  | _ :: r, k + 1 => lget r k
def lset {α : Type} : List α → Nat → α → Option (List α)
  | [], _, _ => none
  | _ :: r, 0, v => some (v :: r)
  | x :: r, k + 1, v => match lset r k v with
    | some r' => some (x :: r')
    | none => none
theorem lget_eq {α : Type} : ∀ (l : List α) (k : Nat), lget l k = l[k]?
  | [], _ => by simp [lget]
  | x :: _, 0 => by simp [lget]
  | _ :: r, k + 1 => by simp [lget, lget_eq r k]
theorem lset_eq {α : Type} : ∀ {l : List α} {k : Nat} {v : α} {l' : List α}, lset l k v = some l' → l' = l.set k v ∧ k < l.length
  | [], _, _, _, h => by cases h
  | _ :: _, 0, _, _, h => by simp [lset] at h; subst h; simp
  | x :: r, k + 1, v, l', h => by
    simp only [lset] at h
    split at h
    · rename_i r' hr
      obtain ⟨h1, h2⟩ := lset_eq hr
      simp at h
      subst h
      simp [h1, h2]
    · cases h
theorem lget_mem {α : Type} {l : List α} {k : Nat} {x : α} (h : lget l k = some x) : x ∈ l := by
  rw [lget_eq] at h
  exact List.mem_of_getElem? h
def eK (P : Program) (T : TypeId) : Option (Bool × Nat) :=
  match P.underlying T, P.info? T with
  | some d, some i => some (match d with | .struct _ | .array _ _ => true | _ => false, i.size)
  | _, _ => none
theorem kind_agg {P : Program} {T : TypeId} {b : Bool} {k : Nat} (h : eK P T = some (b, k)) (w : World) : (isAgg T).run P w = .ok b w := by
  unfold eK at h
  split at h
  · rename_i d i hd hi
    simp only [Option.some.injEq, Prod.mk.injEq] at h
    obtain ⟨h1, h2⟩ := h
    unfold isAgg
    rw [Sem.run_bind, run_underlying hd w]
    subst h1
    cases d <;> rfl
  · cases h
theorem kind_size {P : Program} {T : TypeId} {b : Bool} {k : Nat} (h : eK P T = some (b, k)) (w : World) : (sizeOf T).run P w = .ok k w := by
  unfold eK at h
  split at h
  · rename_i d i hd hi
    simp only [Option.some.injEq, Prod.mk.injEq] at h
    simp [sizeOf, typeInfo, hi, h.2]
  · cases h
def eD (P : Program) (S : TypeId) (f : Nat) : Option Nat :=
  match P.underlying S with
  | some (.struct fields) => match fields[f]? with
    | some fd => match P.info? fd.type with
      | some i => if i.size = 0 then none else some fd.offset
      | none => none
    | none => none
  | _ => none
def fK (P : Program) (S : TypeId) : Option (TypeId × Nat) :=
  match P.underlying S with
  | some (.slice e) => match P.info? e with
    | some i => some (e, i.size)
    | none => none
  | _ => none
def arrSize (P : Program) (S : TypeId) : Option (Nat × TypeId × Nat) :=
  match P.underlying S with
  | some (.array n e) => match P.info? e with
    | some i => some (n, e, i.size)
    | none => none
  | _ => none
theorem add_at (b o n : Nat) : (⟨b, o, none⟩ : Addr).add n = ⟨b, o + n, none⟩ := by unfold Addr.add; split <;> simp_all
def Unf (o : Obj) : Prop := ∀ cs E fz, o = .cells cs E fz → fz = (0, 0)
theorem bU (cs : Array Value) (E : TypeId) : Unf (.cells cs E (0, 0)) := fun _ _ _ h => by cases h; rfl
theorem unf_map (es : Array MapEntry) (c : Nat) : Unf (.map es c) := fun _ _ _ h => by cases h
theorem unf_iter (m : Option Nat) (s : Nat) (a : Array Nat) (k : Nat) : Unf (.mapIter m s a k) := fun _ _ _ h => by cases h
theorem nodup_inj {l : List Nat} (hn : l.Nodup) {j k b : Nat} (hj : l[j]? = some b) (hk : l[k]? = some b) : j = k := by
  induction l generalizing j k with
  | nil => simp at hj
  | cons x r ih =>
    simp only [List.nodup_cons] at hn
    cases j with
    | zero =>
      cases k with
      | zero => rfl
      | succ k =>
        simp at hj hk
        exact (hn.1 (hj ▸ List.mem_of_getElem? hk)).elim
    | succ j =>
      cases k with
      | zero =>
        simp at hj hk
        exact (hn.1 (hk ▸ List.mem_of_getElem? hj)).elim
      | succ k => simp at hj hk; rw [ih hn.2 hj hk]
abbrev Vw := Nat → Option Obj
structure Base extends World where
  V0 : Vw
  V : Vw
structure St (w0 : Base) (w : World) (L : List (Nat × Obj)) : Prop where
  os : w.os = w0.os
  tape : w.tape = w0.tape
  output : w.output = w0.output
  size : w0.heap.size ≤ w.heap.size
  own : ∀ x ∈ L, w.heap[x.1]? = some x.2
  unf : ∀ x ∈ L, Unf x.2
  nodup : (L.map (·.1)).Nodup
  old : ∀ i, i < w0.heap.size → (∀ x ∈ L, x.1 ≠ i) → w.heap[i]? = w0.heap[i]?
  fro : ∀ i, w0.heap.size ≤ i → ∀ cs E fz, w.heap[i]? = some (.cells cs E fz) → fz = (0, 0)
  keep : ∀ b o, w0.V b = some o → w.heap[b]? = some o ∧ ∀ x ∈ L, x.1 ≠ b
  grow0 : ∀ b o, w0.V0 b = some o → w0.V b = some o
  grow : ∀ b o, w0.V b = some o → w0.V0 b = some o ∨ w0.heap.size ≤ b
def Vw.In (V : Vw) (w : World) : Prop := ∀ b o, V b = some o → w.heap[b]? = some o
def Vw.le (V V' : Vw) : Prop := ∀ b o, V b = some o → V' b = some o
theorem Vw.le_refl (V : Vw) : V.le V := fun _ _ h => h
theorem Vw.le_trans {V V' V2 : Vw} (h : V.le V') (k : V'.le V2) : V.le V2 := fun b o hb => k b o (h b o hb)
section
variable {w0 : Base} {w w1 w2 : World} {L M : List (Nat × Obj)} {V V0 V' : Vw}
theorem size_lt {w : World} {b : Nat} {o : Obj} (h : w.heap[b]? = some o) : b < w.heap.size := by
  rcases Nat.lt_or_ge b w.heap.size with h' | h'
  · exact h'
  · simp [Array.getElem?_eq_none h'] at h
theorem St.start (hV : V.In w) : St ⟨w, V, V⟩ w [] := by
  refine ⟨rfl, rfl, rfl, Nat.le_refl _, fun _ h => ?_, fun _ h => ?_, by simp, fun _ _ _ => rfl, fun i hi cs E fz h => ?_, fun b o h => ⟨hV b o h, fun _ h => ?_⟩, fun _ _ h => h, fun _ _ h => .inl h⟩
  · cases h
  · cases h
  · simp [Array.getElem?_eq_none hi] at h
  · cases h
theorem St.start1 {b : Nat} {o : Obj} (hV : V.In w) (hb : w.heap[b]? = some o) (hu : Unf o) (hn : V b = none) : St ⟨w, V, V⟩ w [(b, o)] := by
  refine ⟨rfl, rfl, rfl, Nat.le_refl _, fun x h => ?_, fun x h => ?_, by simp, fun _ _ _ => rfl, fun i hi cs E fz h => ?_, fun c o h => ⟨hV c o h, fun x hx => ?_⟩, fun _ _ h => h, fun _ _ h => .inl h⟩
  · simp at h; subst h; exact hb
  · simp at h; subst h; exact hu
  · simp [Array.getElem?_eq_none hi] at h
  · simp at hx; subst hx; rintro rfl; simp only at h; rw [hn] at h; cases h
theorem St.lt (h : St w0 w L) {x : Nat × Obj} (hx : x ∈ L) : x.1 < w.heap.size := size_lt (h.own x hx)
theorem St.get (h : St w0 w L) {k : Nat} {b : Nat} {o : Obj} (hk : lget L k = some (b, o)) : w.heap[b]? = some o := h.own _ (lget_mem hk)
theorem St.g (h : St w0 w L) (k : Nat) {b : Nat} {o : Obj} (hk : lget L k = some (b, o)) : w.heap[b]? = some o := h.get hk
theorem St.isIn (h : St w0 w L) : w0.V.In w := fun b o hb => (h.keep b o hb).1
theorem St.off (h : St w0 w L) {k : Nat} {b : Nat} {o : Obj} (hk : lget L k = some (b, o)) : w0.V b = none := by
  cases hv : w0.V b with
  | none => rfl
  | some o' => exact ((h.keep b o' hv).2 _ (lget_mem hk) rfl).elim
theorem St.same (h : St w0 w L) (hh : w1.heap = w.heap) (ho : w1.os = w.os) (ht : w1.tape = w.tape) (hp : w1.output = w.output) : St w0 w1 L :=
  ⟨ho.trans h.os, ht.trans h.tape, hp.trans h.output, by rw [hh]; exact h.size, by rw [hh]; exact h.own, h.unf, h.nodup, by rw [hh]; exact h.old, by rw [hh]; exact h.fro, by rw [hh]; exact h.keep, h.grow0, h.grow⟩
theorem St.drew (h : St w0 w L) : St w0 w.drew L := h.same rfl rfl rfl rfl
theorem St.allocObj (h : St w0 w L) (o : Obj) (ho : Unf o) : St w0 (w.alloc o) ((w.heap.size, o) :: L) := by
  refine ⟨h.os, h.tape, h.output, by have := h.size; simp; omega, ?_, ?_, ?_, ?_, ?_, ?_, h.grow0, h.grow⟩
  · intro x hx
    rcases List.mem_cons.1 hx with rfl | hx
    · exact heap_alloc_new w _
    · rw [heap_alloc_old w _ (h.lt hx)]; exact h.own x hx
  · intro x hx
    rcases List.mem_cons.1 hx with rfl | hx
    · exact ho
    · exact h.unf x hx
  · simp only [List.map_cons, List.nodup_cons]
    refine ⟨fun hm => ?_, h.nodup⟩
    obtain ⟨x, hx, he⟩ := List.mem_map.1 hm
    have := h.lt hx
    omega
  · intro i hi hn
    rw [heap_alloc_old w _ (by have := h.size; omega)]
    exact h.old i hi fun x hx => hn x (List.mem_cons_of_mem _ hx)
  · intro i hi cs' E' fz hc
    by_cases hlt : i < w.heap.size
    · rw [heap_alloc_old w _ hlt] at hc; exact h.fro i hi _ _ _ hc
    · by_cases he : i = w.heap.size
      · subst he
        rw [heap_alloc_new w _] at hc
        exact ho _ _ _ (by simpa using hc)
      · have : (w.alloc o).heap.size ≤ i := by simp; omega
        simp [Array.getElem?_eq_none this] at hc
  · intro b o' hv
    obtain ⟨h1, h2⟩ := h.keep b o' hv
    have hlt := size_lt h1
    refine ⟨by rw [heap_alloc_old w _ hlt]; exact h1, fun x hx => ?_⟩
    rcases List.mem_cons.1 hx with rfl | hx
    · simp; omega
    · exact h2 x hx
theorem St.alloc (h : St w0 w L) (cs : Array Value) (E : TypeId) : St w0 (w.alloc (.cells cs E)) ((w.heap.size, .cells cs E) :: L) := h.allocObj _ (bU _ _)
theorem map_set_fst {b : Nat} {o' : Obj} : ∀ (L : List (Nat × Obj)) (k : Nat) (o : Obj), lget L k = some (b, o) → (L.set k (b, o')).map (·.1) = L.map (·.1)
  | [], _, _, h => by cases h
  | x :: r, 0, o, h => by simp [lget] at h; subst h; simp
  | x :: r, k + 1, o, h => by simp [lget] at h; simp [map_set_fst r k o h]
theorem set_in {b k : Nat} {o o' : Obj} (hn : (L.map (·.1)).Nodup) (hk : lget L k = some (b, o)) (hlt : k < L.length) : ∀ x ∈ L.set k (b, o'), x = (b, o') ∨ (x ∈ L ∧ x.1 ≠ b) := by
  intro x hx
  rw [List.mem_iff_getElem?] at hx
  obtain ⟨j, hj⟩ := hx
  by_cases hjk : j = k
  · subst hjk; rw [List.getElem?_set_self hlt] at hj; left; simpa using hj.symm
  · rw [List.getElem?_set_ne (Ne.symm hjk)] at hj
    refine .inr ⟨List.mem_of_getElem? hj, fun he => hjk ?_⟩
    rw [lget_eq] at hk
    have e1 : (L.map (·.1))[j]? = some b := by simp [hj, he]
    have e2 : (L.map (·.1))[k]? = some b := by simp [hk]
    exact nodup_inj hn e1 e2
theorem notin_set {b k i : Nat} {o o' : Obj} (hk : lget L k = some (b, o)) (hn : ∀ x ∈ L.set k (b, o'), x.1 ≠ i) : ∀ x ∈ L, x.1 ≠ i := by
  intro x hx he
  have hm : x.1 ∈ (L.set k (b, o')).map (·.1) := by rw [map_set_fst L k o hk]; exact List.mem_map_of_mem hx
  obtain ⟨y, hy, hye⟩ := List.mem_map.1 hm
  exact hn y hy (hye.trans he)
theorem notin_set' {b k i : Nat} {o o' : Obj} (hk : lget L k = some (b, o)) (hn : ∀ x ∈ L, x.1 ≠ i) : ∀ x ∈ L.set k (b, o'), x.1 ≠ i := by
  intro x hx he
  have hm : x.1 ∈ L.map (·.1) := by rw [← map_set_fst (o' := o') L k o hk]; exact List.mem_map_of_mem hx
  obtain ⟨y, hy, hye⟩ := List.mem_map.1 hm
  exact hn y hy (hye.trans he)
theorem St.put (h : St w0 w L) {k b : Nat} {o o' : Obj} {L' : List (Nat × Obj)} (hk : lget L k = some (b, o)) (hL : lset L k (b, o') = some L') (hfz : Unf o')
    (hos : w1.os = w.os) (ht : w1.tape = w.tape) (hp : w1.output = w.output) (hsz : w1.heap.size = w.heap.size) (hb : w1.heap[b]? = some o') (hoth : ∀ i, i ≠ b → w1.heap[i]? = w.heap[i]?) : St w0 w1 L' := by
  obtain ⟨rfl, hlt⟩ := lset_eq hL
  have hin := set_in (o' := o') h.nodup hk hlt
  have hself : (b, o') ∈ L.set k (b, o') := by rw [List.mem_iff_getElem?]; exact ⟨k, List.getElem?_set_self hlt⟩
  refine ⟨hos.trans h.os, ht.trans h.tape, hp.trans h.output, by rw [hsz]; exact h.size, ?_, fun x hx => ?_, by rw [map_set_fst L k o hk]; exact h.nodup, ?_, ?_, ?_, h.grow0, h.grow⟩
  · intro x hx
    rcases hin x hx with rfl | ⟨hx, hne⟩
    · exact hb
    · rw [hoth _ hne]; exact h.own x hx
  · rcases hin x hx with rfl | ⟨hx, hne⟩
    · exact hfz
    · exact h.unf x hx
  · intro i hi hn
    have hne : i ≠ b := fun he => hn (b, o') hself he.symm
    rw [hoth i hne]
    exact h.old i hi (notin_set hk hn)
  · intro i hi cs E fz hc
    by_cases he : i = b
    · subst he; rw [hb] at hc; simp at hc; exact hfz cs E fz hc
    · rw [hoth i he] at hc; exact h.fro i hi _ _ _ hc
  · intro c oc hv
    obtain ⟨h1, h2⟩ := h.keep c oc hv
    have hne : c ≠ b := fun he => h2 (b, o) (lget_mem hk) he.symm
    exact ⟨by rw [hoth c hne]; exact h1, notin_set' hk h2⟩
theorem St.frame {w0 : World} (h : St ⟨w0, V0, V⟩ w L) (hc : St ⟨w, V, V'⟩ w1 []) : St ⟨w0, V0, V'⟩ w1 L := by
  refine ⟨hc.os.trans h.os, hc.tape.trans h.tape, hc.output.trans h.output, Nat.le_trans h.size hc.size, ?_, h.unf, h.nodup, ?_, ?_, ?_, ?_, ?_⟩
  · intro x hx
    rw [hc.old _ (h.lt hx) (fun _ hh => by cases hh)]
    exact h.own x hx
  · intro i hi hn
    rw [hc.old i (Nat.lt_of_lt_of_le hi h.size) (fun _ hh => by cases hh)]
    exact h.old i hi hn
  · intro i hi cs E fz hcell
    by_cases hlt : i < w.heap.size
    · rw [hc.old i hlt (fun _ hh => by cases hh)] at hcell; exact h.fro i hi _ _ _ hcell
    · exact hc.fro i (by simp only; omega) _ _ _ hcell
  · intro b o hv
    refine ⟨(hc.keep b o hv).1, fun x hx he => ?_⟩
    have := h.lt hx
    rcases hc.grow b o hv with h1 | h1
    · exact (h.keep b o h1).2 x hx he
    · simp only at h1; omega
  · exact fun b o hv => hc.grow0 b o (h.grow0 b o hv)
  · intro b o hv
    rcases hc.grow b o hv with h1 | h1
    · exact h.grow b o h1
    · exact .inr (Nat.le_trans h.size h1)
theorem St.frame1 {w0 : World} (h : St ⟨w0, V0, V⟩ w L) {k b : Nat} {o o' : Obj} {L' : List (Nat × Obj)} (hk : lget L k = some (b, o)) (hL : lset L k (b, o') = some L')
    (hc : St ⟨w, V, V'⟩ w1 [(b, o')]) : St ⟨w0, V0, V'⟩ w1 L' := by
  obtain ⟨rfl, hlt⟩ := lset_eq hL
  have hfz : Unf o' := hc.unf _ (List.mem_cons_self ..)
  have hbL : (b, o) ∈ L := lget_mem hk
  have hin := set_in (o' := o') h.nodup hk hlt
  have hself : (b, o') ∈ L.set k (b, o') := by rw [List.mem_iff_getElem?]; exact ⟨k, List.getElem?_set_self hlt⟩
  have hone : ∀ i, i ≠ b → ∀ x ∈ [(b, o')], x.1 ≠ i := fun i hi y hy => by simp at hy; subst hy; exact fun he => hi he.symm
  refine ⟨hc.os.trans h.os, hc.tape.trans h.tape, hc.output.trans h.output, Nat.le_trans h.size hc.size, ?_, fun x hx => ?_, by rw [map_set_fst L k o hk]; exact h.nodup, ?_, ?_, ?_, ?_, ?_⟩
  · intro x hx
    rcases hin x hx with rfl | ⟨hx, hne⟩
    · exact hc.own _ (List.mem_cons_self ..)
    · rw [hc.old _ (h.lt hx) (hone _ hne)]
      exact h.own x hx
  · rcases hin x hx with rfl | ⟨hx, hne⟩
    · exact hfz
    · exact h.unf x hx
  · intro i hi hn
    have hne : i ≠ b := fun he => hn (b, o') hself he.symm
    rw [hc.old i (Nat.lt_of_lt_of_le hi h.size) (hone _ hne)]
    exact h.old i hi (notin_set hk hn)
  · intro i hi cs E fz hcell
    by_cases hlt2 : i < w.heap.size
    · by_cases he : i = b
      · subst he
        rw [hc.own _ (List.mem_cons_self ..)] at hcell
        simp at hcell
        exact hfz cs E fz hcell
      · rw [hc.old i hlt2 (hone _ he)] at hcell
        exact h.fro i hi _ _ _ hcell
    · exact hc.fro i (by simp only; omega) _ _ _ hcell
  · intro c oc hv
    refine ⟨(hc.keep c oc hv).1, notin_set' hk fun x hx he => ?_⟩
    have := h.lt hx
    rcases hc.grow c oc hv with h1 | h1
    · exact (h.keep c oc h1).2 x hx he
    · simp only at h1; omega
  · exact fun b o hv => hc.grow0 b o (h.grow0 b o hv)
  · intro c oc hv
    rcases hc.grow c oc hv with h1 | h1
    · exact h.grow c oc h1
    · exact .inr (Nat.le_trans h.size h1)
theorem St.add (h : St w0 w L) {b : Nat} {o : Obj} (hb : w.heap[b]? = some o) (hu : Unf o) (hn : ∀ x ∈ L, x.1 ≠ b) (hv : w0.V b = none) : St w0 w ((b, o) :: L) := by
  refine ⟨h.os, h.tape, h.output, h.size, ?_, ?_, ?_, ?_, h.fro, ?_, h.grow0, h.grow⟩
  · intro x hx
    rcases List.mem_cons.1 hx with rfl | hx
    · exact hb
    · exact h.own x hx
  · intro x hx
    rcases List.mem_cons.1 hx with rfl | hx
    · exact hu
    · exact h.unf x hx
  · simp only [List.map_cons, List.nodup_cons]
    refine ⟨fun hm => ?_, h.nodup⟩
    obtain ⟨x, hx, he⟩ := List.mem_map.1 hm
    exact hn x hx he
  · intro i hi hne
    exact h.old i hi fun x hx => hne x (List.mem_cons_of_mem _ hx)
  · intro c oc hc
    obtain ⟨h1, h2⟩ := h.keep c oc hc
    refine ⟨h1, fun x hx => ?_⟩
    rcases List.mem_cons.1 hx with rfl | hx
    · rintro rfl; rw [hv] at hc; cases hc
    · exact h2 x hx
theorem St.drop {b : Nat} {o : Obj} (h : St w0 w ((b, o) :: L)) (hb : w0.heap.size ≤ b) : St w0 w L := by
  refine ⟨h.os, h.tape, h.output, h.size, fun x hx => h.own x (List.mem_cons_of_mem _ hx), fun x hx => h.unf x (List.mem_cons_of_mem _ hx), ?_, ?_, h.fro, fun c oc hc => ⟨(h.keep c oc hc).1, fun x hx => (h.keep c oc hc).2 x (List.mem_cons_of_mem _ hx)⟩, h.grow0, h.grow⟩
  · have := h.nodup; simp only [List.map_cons, List.nodup_cons] at this; exact this.2
  · intro i hi hne
    refine h.old i hi fun x hx => ?_
    rcases List.mem_cons.1 hx with rfl | hx
    · simp; omega
    · exact hne x hx
theorem St.swap {x y : Nat × Obj} (h : St w0 w (x :: y :: L)) : St w0 w (y :: x :: L) := by
  have hm : ∀ z, z ∈ y :: x :: L → z ∈ x :: y :: L := by
    intro z hz
    rcases List.mem_cons.1 hz with rfl | hz
    · simp
    · rcases List.mem_cons.1 hz with rfl | hz
      · simp
      · simp [hz]
  have hm' : ∀ z, z ∈ x :: y :: L → z ∈ y :: x :: L := by
    intro z hz
    rcases List.mem_cons.1 hz with rfl | hz
    · simp
    · rcases List.mem_cons.1 hz with rfl | hz
      · simp
      · simp [hz]
  refine ⟨h.os, h.tape, h.output, h.size, fun z hz => h.own z (hm z hz), fun z hz => h.unf z (hm z hz), ?_, ?_, h.fro, fun c oc hc => ⟨(h.keep c oc hc).1, fun z hz => (h.keep c oc hc).2 z (hm z hz)⟩, h.grow0, h.grow⟩
  · have := h.nodup
    simp only [List.map_cons, List.nodup_cons, List.mem_cons, not_or] at this ⊢
    exact ⟨⟨fun e => this.1.1 e.symm, this.2.1⟩, this.1.2, this.2.2⟩
  · intro i hi hne
    exact h.old i hi fun z hz => hne z (hm' z hz)
theorem St.ro (h : St w0 w L) {i : Nat} (hi : i < w0.heap.size) (hn : ∀ x ∈ L, x.1 ≠ i) : w.heap[i]? = w0.heap[i]? := h.old i hi hn
theorem St.cell (h : St w0 w L) {b : Nat} {o : Obj} (hb : w0.V b = some o) : w.heap[b]? = some o := (h.keep b o hb).1
def vAll (w0 : Base) (w : World) (L : List (Nat × Obj)) : Vw := fun b =>
  match w0.V b with
  | some o => some o
  | none => if w0.heap.size ≤ b ∧ ∀ x ∈ L, x.1 ≠ b then w.heap[b]? else none
theorem vAll_le (w0 : Base) (w : World) (L : List (Nat × Obj)) : w0.V.le (vAll w0 w L) := fun b o h => by simp [vAll, h]
theorem St.all {w0 : World} (h : St ⟨w0, V0, V⟩ w L) : St ⟨w0, V0, vAll ⟨w0, V0, V⟩ w L⟩ w L := by
  refine ⟨h.os, h.tape, h.output, h.size, h.own, h.unf, h.nodup, h.old, h.fro, fun b o hv => ?_, fun b o hv => vAll_le _ _ _ _ _ (h.grow0 b o hv), fun b o hv => ?_⟩
  · cases hV : V b with
    | some o' =>
      simp only [vAll, hV, Option.some.injEq] at hv
      subst hv
      exact h.keep b o' hV
    | none =>
      simp only [vAll, hV] at hv
      split at hv
      · rename_i hc; exact ⟨hv, hc.2⟩
      · cases hv
  · cases hV : V b with
    | some o' =>
      simp only [vAll, hV, Option.some.injEq] at hv
      subst hv
      exact h.grow b o' hV
    | none =>
      simp only [vAll, hV] at hv
      split at hv
      · rename_i hc; exact .inr hc.1
      · cases hv
theorem St.vAll_in {w0 : World} (h : St ⟨w0, V0, V⟩ w L) {b : Nat} {o : Obj} (hb : w.heap[b]? = some o) (h0 : w0.heap.size ≤ b) (hn : ∀ x ∈ L, x.1 ≠ b) : vAll ⟨w0, V0, V⟩ w L b = some o := by
  cases hV : V b with
  | some o' =>
    have := (h.keep b o' hV).1
    rw [hb] at this
    simp [vAll, hV, this]
  | none =>
    simp only [vAll, hV]
    rw [if_pos ⟨h0, hn⟩]
    exact hb
theorem St.give {w0 : World} {b : Nat} {o : Obj} (h : St ⟨w0, V0, V⟩ w ((b, o) :: L)) (hb : w0.heap.size ≤ b) : ∃ V', V.le V' ∧ V' b = some o ∧ St ⟨w0, V0, V'⟩ w L := by
  have h2 := h.drop hb
  refine ⟨_, vAll_le ⟨w0, V0, V⟩ w L, h2.vAll_in (h.own _ (List.mem_cons_self ..)) hb ?_, h2.all⟩
  have := h.nodup
  simp only [List.map_cons, List.nodup_cons] at this
  intro x hx he
  exact this.1 (he ▸ List.mem_map_of_mem hx)
theorem St.view (h : St w0 w L) : w0.V0.le w0.V := h.grow0
end
end Go.Proofs.YtgpfjlfkaoffeaaGreatDoor

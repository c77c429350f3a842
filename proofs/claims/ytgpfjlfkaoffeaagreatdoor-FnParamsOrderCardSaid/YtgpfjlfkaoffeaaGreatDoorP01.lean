/- The proof layer of this claim, first part: frames as partial functions from slots to values, and the rules for control. -/
import Derived.WalkKit
import Derived.Deep.LoopGhost
import Derived.Deep.Quiet
import Derived.Scope
set_option linter.all false
namespace Go.Proofs.YtgpfjlfkaoffeaaGreatDoor
open Go
abbrev Env := Nat → Option Value
def emp : Env := fun _ => none
def upd (ρ : Env) (d : Nat) (v : Value) : Env := fun i => bif Nat.beq i d then some v else ρ i
def ev (ρ : Env) : Operand → Option Value
  | .tmp t => ρ t
  | .const v => some v
  | .global g => some (.pointer (some ⟨g, 0, none⟩))
  | .func f => some (.func (.func f) #[] #[])
def evL (ρ : Env) : List Operand → Option (List Value)
  | [] => some []
  | x :: r => match ev ρ x, evL ρ r with
    | some v, some vs => some (v :: vs)
    | _, _ => none
structure Fr (n : Nat) (a : Act) (ρ : Env) : Prop where
  nodef : a.defers = []
  size : a.tmps.size = n
  get : ∀ t v, ρ t = some v → a.tmps[t]? = some v
def Ag (ρ : Env) (e : Operand → Value) : Prop := ∀ x u, ev ρ x = some u → e x = u
theorem Fr.ag {n : Nat} {a : Act} {ρ : Env} (h : Fr n a ρ) : Ag ρ a.eval := by
  intro x v hx
  cases x with
  | tmp t => have := h.get _ _ hx; simp [Act.eval, this]
  | const v' => simpa [ev, Act.eval] using hx
  | global g => simpa [ev, Act.eval] using hx
  | func f => simpa [ev, Act.eval] using hx
theorem Ag.list {ρ : Env} {e : Operand → Value} (h : Ag ρ e) : ∀ {l : List Operand} {vs : List Value}, evL ρ l = some vs → l.map e = vs
  | [], vs, hl => by simp [evL] at hl; simp [hl]
  | x :: r, vs, hl => by
    simp only [evL] at hl
    split at hl
    · rename_i v vs' hv hvs
      simp at hl
      subst hl
      simp [h x v hv, h.list hvs]
    · simp at hl
theorem upd_same (ρ : Env) (d : Nat) (v : Value) : upd ρ d v d = some v := by simp [upd]
theorem upd_other (ρ : Env) (d t : Nat) (v : Value) (h : t ≠ d) : upd ρ d v t = ρ t := by
  have : Nat.beq t d = false := by cases hb : Nat.beq t d with | false => rfl | true => exact (h (Nat.eq_of_beq_eq_true hb)).elim
  simp [upd, this]
theorem Fr.put {n : Nat} {a : Act} {ρ : Env} {d : Nat} {v : Value} (h : Fr n a ρ) (hd : Nat.blt d n = true) : Fr n (a.put (some d) v) (upd ρ d v) := by
  have hdn : d < a.tmps.size := by rw [h.size]; simpa using hd
  refine ⟨h.nodef, by simp [Act.put, h.size], fun t u ht => ?_⟩
  by_cases htd : t = d
  · subst htd
    rw [upd_same] at ht
    simp at ht
    subst ht
    simp [Act.put, hdn]
  · rw [upd_other _ _ _ _ htd] at ht
    have := h.get _ _ ht
    simp only [Act.put]
    rw [Array.getElem?_setIfInBounds_ne (Ne.symm htd)]
    exact this
theorem Fr.put_none {n : Nat} {a : Act} {ρ : Env} {v : Value} (h : Fr n a ρ) : Fr n (a.put none v) ρ := h
def Sub (ρ' ρ : Env) : Prop := ∀ t v, ρ' t = some v → ρ t = some v
theorem Sub.refl (ρ : Env) : Sub ρ ρ := fun _ _ h => h
theorem bG (ρ : Env) : Sub emp ρ := fun _ _ h => by cases h
theorem aL {ρ' ρ : Env} {d : Nat} {v : Value} (h : ρ d = some v) (hs : Sub ρ' ρ) : Sub (upd ρ' d v) ρ := by
  intro t u ht
  by_cases htd : t = d
  · subst htd; rw [upd_same] at ht; rw [h]; exact ht
  · rw [upd_other _ _ _ _ htd] at ht; exact hs t u ht
theorem Fr.mono {n : Nat} {a : Act} {ρ ρ' : Env} (h : Fr n a ρ) (hs : Sub ρ' ρ) : Fr n a ρ' := ⟨h.nodef, h.size, fun t v ht => h.get t v (hs t v ht)⟩
abbrev QE := Exit → Env → World → Prop
def liftQ (n : Nat) (Q : QE) : Exit → Act → World → Prop := fun e a w => ∃ ρ, Fr n a ρ ∧ Q e ρ w
@[irreducible] def EW (P : Program) (n : Nat) (c : Code) (Q : QE) (ρ : Env) (w : World) : Prop := ∀ a, Fr n a ρ → c.wp P (liftQ n Q) a w
@[reducible] def thenQ (K : Env → World → Prop) (Q : QE) : QE
  | .normal, ρ, w => K ρ w
  | e, ρ, w => Q e ρ w
@[reducible] def inBlockQ (id : Nat) (Q : QE) : QE
  | .exit i, ρ, w => bif Nat.beq i id then Q .normal ρ w else Q (.exit i) ρ w
  | e, ρ, w => Q e ρ w
@[reducible] def noGotoQ (Q : QE) : QE
  | .goto _, _, _ => False
  | e, ρ, w => Q e ρ w
section
variable {P : Program} {n : Nat} {Q : QE} {ρ : Env} {w : World}
theorem EW.weaken {c : Code} {ρ' : Env} (hs : Sub ρ' ρ) (h : EW P n c Q ρ' w) : EW P n c Q ρ w := by
  unfold EW at *
  exact fun a ha => h a (ha.mono hs)
theorem EW.mono {c : Code} {Q' : QE} (h : EW P n c Q ρ w) (hq : ∀ e ρ w, Q e ρ w → Q' e ρ w) : EW P n c Q' ρ w := by
  unfold EW at *
  exact fun a ha => wp_mono (h a ha) fun _ _ _ ⟨ρ', hf, q⟩ => ⟨ρ', hf, hq _ _ _ q⟩
theorem aF {x y : Code} (h : EW P n x (thenQ (EW P n y Q) Q) ρ w) : EW P n (.seq x y) Q ρ w := by
  unfold EW at *
  intro a ha
  refine wp_seq (wp_mono (h a ha) ?_)
  rintro e a' w' ⟨ρ', hf, q⟩
  cases e with
  | normal => exact q a' hf
  | exit id => exact ⟨ρ', hf, q⟩
  | goto l => exact ⟨ρ', hf, q⟩
  | ret => exact ⟨ρ', hf, q⟩
  | panic c => exact ⟨ρ', hf, q⟩
  | outgrown => exact ⟨ρ', hf, q⟩
theorem aW (h : Q .normal ρ w) : EW P n .skip Q ρ w := by
  unfold EW; exact fun _ ha => wp_skip ⟨ρ, ha, h⟩
theorem e_label {l : Nat} (h : Q .normal ρ w) : EW P n (.label l) Q ρ w := by
  unfold EW; exact fun _ ha => wp_label ⟨ρ, ha, h⟩
theorem e_exit {id : Nat} (h : Q (.exit id) ρ w) : EW P n (.exit id) Q ρ w := by
  unfold EW; exact fun _ ha => wp_exit ⟨ρ, ha, h⟩
theorem aV (h : Q .ret ρ w) : EW P n .ret Q ρ w := by
  unfold EW; exact fun _ ha => wp_ret ⟨ρ, ha, h⟩
theorem bJ {c : Operand} {x y : Code} {t : Bool} (hc : ev ρ c = some (.bool t)) (ht : t = true → EW P n x Q ρ w) (hf : t = false → EW P n y Q ρ w) :
    EW P n (.cond c x y) Q ρ w := by
  unfold EW at *
  exact fun a ha => wp_cond_split (ha.ag _ _ hc) (fun h => ht h a ha) (fun h => hf h a ha)
theorem bH {c : Operand} {x y : Code} {p : Prop} [Decidable p] (hc : ev ρ c = some (.bool (decide p))) (ht : p → EW P n x Q ρ w) (hf : ¬ p → EW P n y Q ρ w) :
    EW P n (.cond c x y) Q ρ w := bJ hc (fun h => ht (of_decide_eq_true h)) (fun h => hf (of_decide_eq_false h))
theorem cO {c : Operand} {x y : Code} {t : Bool} (hc : ev ρ c = some (.bool t)) (ht : t = true) (h : EW P n x Q ρ w) : EW P n (.cond c x y) Q ρ w :=
  bJ hc (fun _ => h) (fun hf => by rw [ht] at hf; cases hf)
theorem aY {c : Operand} {x y : Code} {t : Bool} (hc : ev ρ c = some (.bool t)) (ht : t = false) (h : EW P n y Q ρ w) : EW P n (.cond c x y) Q ρ w :=
  bJ hc (fun hf => by rw [ht] at hf; cases hf) (fun _ => h)
theorem bQ {id : Nat} {c : Code} (h : EW P n c (inBlockQ id Q) ρ w) : EW P n (.block id c) Q ρ w := by
  unfold EW at *
  intro a ha
  refine wp_block (wp_mono (h a ha) ?_)
  rintro e a' w' ⟨ρ', hf, q⟩
  cases e with
  | exit i =>
    by_cases hi : i = id
    · subst hi
      simp only [Exit.inBlock, if_true]
      exact ⟨ρ', hf, by simpa [inBlockQ] using q⟩
    · have hb : Nat.beq i id = false := by cases hb : Nat.beq i id with | false => rfl | true => exact (hi (Nat.eq_of_beq_eq_true hb)).elim
      simp only [Exit.inBlock, hi, if_false]
      exact ⟨ρ', hf, by simpa [inBlockQ, hb] using q⟩
  | normal => exact ⟨ρ', hf, q⟩
  | goto l => exact ⟨ρ', hf, q⟩
  | ret => exact ⟨ρ', hf, q⟩
  | panic c => exact ⟨ρ', hf, q⟩
  | outgrown => exact ⟨ρ', hf, q⟩
theorem e_scope {c : Code} (h : EW P n c (noGotoQ Q) ρ w) : EW P n (.scope c) Q ρ w := by
  unfold EW at *
  intro a ha
  refine wp_scope_straight (wp_mono (h a ha) ?_)
  rintro e a' w' ⟨ρ', hf, q⟩
  cases e with
  | goto l => exact q.elim
  | normal => exact ⟨ρ', hf, q⟩
  | exit i => exact ⟨ρ', hf, q⟩
  | ret => exact ⟨ρ', hf, q⟩
  | panic c => exact ⟨ρ', hf, q⟩
  | outgrown => exact ⟨ρ', hf, q⟩
theorem dC {c : Code} {G : Type} (E : G → Env) (R : G → World → Prop) (m : G → Nat) (g0 : G) (h0 : Sub (E g0) ρ) (hR : R g0 w)
    (round : ∀ g w, R g w → EW P n c (thenQ (fun ρ' w' => ∃ g', Sub (E g') ρ' ∧ R g' w' ∧ m g' < m g) Q) (E g) w) : EW P n (.loop c) Q ρ w := by
  unfold EW at *
  intro a ha
  refine wp_loop_ghost (fun k a' w' => ∃ g, Fr n a' (E g) ∧ R g w' ∧ m g = k) (m g0) ⟨g0, ha.mono h0, hR, rfl⟩ ?_
  rintro k a' w' ⟨g, hf, hr, rfl⟩
  refine wp_mono (round g w' hr a' hf) ?_
  rintro e a2 w2 ⟨ρ2, hf2, q⟩
  cases e with
  | normal =>
    obtain ⟨g', hs, hr', hlt⟩ := q
    exact ⟨m g', hlt, g', hf2.mono hs, hr', rfl⟩
  | exit i => exact ⟨ρ2, hf2, q⟩
  | goto l => exact ⟨ρ2, hf2, q⟩
  | ret => exact ⟨ρ2, hf2, q⟩
  | panic c => exact ⟨ρ2, hf2, q⟩
  | outgrown => exact ⟨ρ2, hf2, q⟩
end
@[irreducible] def OW (P : Program) (n : Nat) (o : Oper) (K : Env → World → Prop) (ρ : Env) (w : World) : Prop :=
  ∀ a Q next, Fr n a ρ → (∀ a' w', (∃ ρ', Fr n a' ρ' ∧ K ρ' w') → next a' w') → o.wp P a w next Q
@[irreducible] def LW (P : Program) (n : Nat) (ops : Array Oper) (l : List Oper) (K : Env → World → Prop) (ρ : Env) (w : World) : Prop :=
  ∀ a Q, Fr n a ρ → (∀ a' w', (∃ ρ', Fr n a' ρ' ∧ K ρ' w') → Q Exit.normal a' w') → wpList P ops Q l a w
section
variable {P : Program} {n : Nat} {ρ : Env} {w : World}
theorem aB {id : Nat} {l : List Oper} {Q : QE} (h : LW P n l.toArray l (fun ρ' w' => Q .normal ρ' w') ρ w) : EW P n (.region id l.toArray false) Q ρ w := by
  unfold EW
  unfold LW at h
  exact fun a ha => wp_region_lit (h a _ ha fun _ _ ⟨ρ', hf, k⟩ => ⟨ρ', hf, k⟩)
theorem dP {id : Nat} {l : List Oper} {y : Code} {Q : QE} (h : LW P n l.toArray l (fun ρ' w' => thenQ (EW P n y Q) Q .normal ρ' w') ρ w) : EW P n (.seq (.region id l.toArray false) y) Q ρ w := aF (aB h)
variable {K : Env → World → Prop} {ops : Array Oper}
theorem aH (h : K ρ w) : LW P n ops [] K ρ w := by
  unfold LW
  exact fun a _ ha hk => wpList_nil (hk a w ⟨ρ, ha, h⟩)
theorem aJ {d : Option Tmp} {op : Op} {ty : TypeId} {pos : String} {af : Array Edge} {rest : List Oper}
    (h : OW P n ⟨d, op, ty, pos, af, none⟩ (fun ρ' w' => LW P n ops rest K ρ' w') ρ w) : LW P n ops (⟨d, op, ty, pos, af, none⟩ :: rest) K ρ w := by
  unfold OW at h
  unfold LW at *
  intro a Q ha hk
  refine wpList_plain rfl fun K' hK' => ?_
  refine h a Q K' ha ?_
  rintro a' w' ⟨ρ', hf, hl⟩
  exact hK' a' w' (hl a' Q hf hk)
theorem OW.mono {o : Oper} {K' : Env → World → Prop} (h : OW P n o K ρ w) (hk : ∀ ρ w, K ρ w → K' ρ w) : OW P n o K' ρ w := by
  unfold OW at *
  exact fun a Q next ha hn => h a Q next ha fun a' w' ⟨ρ', hf, k⟩ => hn a' w' ⟨ρ', hf, hk _ _ k⟩
def guardOf (ops : Array Oper) (j : Nat) : Option Tmp := (ops[j]?).bind (·.dst)
theorem wanted_of {a : Act} {j t : Nat} {b want : Bool} {o : Oper} (ha : Fr n a ρ) (hg : o.guard = some (j, want)) (hj : guardOf ops j = some t) (ht : ρ t = some (.bool b)) :
    Region.wanted o (yielded ops a.tmps) = (b == want) := by
  have h := ha.get _ _ ht
  unfold guardOf at hj
  simp only [Region.wanted, hg, yielded, hj, Option.bind_some, h]
  cases b <;> cases want <;> rfl
theorem cX {d : Option Tmp} {op : Op} {ty : TypeId} {pos : String} {af : Array Edge} {rest : List Oper} {j t : Nat} {b want : Bool}
    (hj : guardOf ops j = some t) (ht : ρ t = some (.bool b)) (hb : b = want)
    (h : OW P n ⟨d, op, ty, pos, af, some (j, want)⟩ (fun ρ' w' => LW P n ops rest K ρ' w') ρ w) : LW P n ops (⟨d, op, ty, pos, af, some (j, want)⟩ :: rest) K ρ w := by
  unfold OW at h
  unfold LW at *
  intro a Q ha hk
  refine wpList_step fun K' hK' => ?_
  rw [if_pos (by rw [wanted_of (ops := ops) (b := b) (o := ⟨d, op, ty, pos, af, some (j, want)⟩) ha rfl hj ht]; simp [hb])]
  refine h a Q K' ha ?_
  rintro a' w' ⟨ρ', hf, hl⟩
  exact hK' a' w' (hl a' Q hf hk)
theorem aU {d : Tmp} {op : Op} {ty : TypeId} {pos : String} {af : Array Edge} {rest : List Oper} {j t : Nat} {b want : Bool}
    (hj : guardOf ops j = some t) (ht : ρ t = some (.bool b)) (hb : b = !want) (hd : Nat.blt d n = true)
    (h : LW P n ops rest K (upd ρ d undef) w) : LW P n ops (⟨some d, op, ty, pos, af, some (j, want)⟩ :: rest) K ρ w := by
  unfold LW at *
  intro a Q ha hk
  refine wpList_step fun K' hK' => ?_
  rw [if_neg (by rw [wanted_of (ops := ops) (b := b) (o := ⟨some d, op, ty, pos, af, some (j, want)⟩) ha rfl hj ht]; subst hb; cases want <;> simp)]
  exact hK' _ _ (h _ Q (ha.put hd) hk)
def PO (P : Program) (op : Op) (ρ : Env) (w : World) (v : Value) : Prop := ∀ (o : Oper) (e : Operand → Value), o.op = op → Ag ρ e → (execOp e o).run P w = .ok (.value v) w
def RV (P : Program) (op : Op) (ρ : Env) (w : World) (F : Value → World → Prop) : Prop :=
  ∀ (o : Oper) (e : Operand → Value), o.op = op → Ag ρ e → ∃ v w', (execOp e o).run P w = .ok (.value v) w' ∧ F v w'
def RS (P : Program) (op : Op) (ρ : Env) (w : World) (F : World → Prop) : Prop :=
  ∀ (o : Oper) (e : Operand → Value), o.op = op → Ag ρ e → ∃ w', (execOp e o).run P w = .ok .skip w' ∧ F w'
def CallsV (P : Program) (f : FuncId) (args : Array Value) (w : World) (F : Value → World → Prop) : Prop :=
  Calls P f args w fun e w' => ∃ v, e = .returned v ∧ F v w'
def RC (P : Program) (op : Op) (ρ : Env) (w : World) (F : Value → World → Prop) : Prop :=
  ∀ (o : Oper) (e : Operand → Value), o.op = op → Ag ρ e → ∃ f args w1, (execOp e o).run P w = .ok (.enter f args) w1 ∧ CallsV P f args w1 F
theorem CallsV.mono {f : FuncId} {args : Array Value} {F F' : Value → World → Prop} (h : CallsV P f args w F) (hf : ∀ v w', F v w' → F' v w') : CallsV P f args w F' :=
  Calls.mono h fun _ _ ⟨v, he, hv⟩ => ⟨v, he, hf _ _ hv⟩
theorem o_pure {d : Tmp} {op : Op} {ty : TypeId} {pos : String} {af : Array Edge} {g : Option (Nat × Bool)} {v : Value} (h : PO P op ρ w v) (hd : Nat.blt d n = true) (hk : K (upd ρ d v) w) :
    OW P n ⟨some d, op, ty, pos, af, g⟩ K ρ w := by
  unfold OW
  intro a Q next ha hn
  unfold Oper.wp
  rw [h _ a.eval rfl ha.ag]
  exact hn _ _ ⟨_, ha.put hd, hk⟩
theorem o_val {d : Tmp} {op : Op} {ty : TypeId} {pos : String} {af : Array Edge} {g : Option (Nat × Bool)} {F : Value → World → Prop} (h : RV P op ρ w F) (hd : Nat.blt d n = true)
    (hk : ∀ v w', F v w' → K (upd ρ d v) w') : OW P n ⟨some d, op, ty, pos, af, g⟩ K ρ w := by
  unfold OW
  intro a Q next ha hn
  obtain ⟨v, w', hr, hF⟩ := h ⟨some d, op, ty, pos, af, g⟩ a.eval rfl ha.ag
  unfold Oper.wp
  rw [hr]
  exact hn _ _ ⟨_, ha.put hd, hk _ _ hF⟩
theorem o_skip {op : Op} {ty : TypeId} {pos : String} {af : Array Edge} {g : Option (Nat × Bool)} {F : World → Prop} (h : RS P op ρ w F)
    (hk : ∀ w', F w' → K ρ w') : OW P n ⟨none, op, ty, pos, af, g⟩ K ρ w := by
  unfold OW
  intro a Q next ha hn
  obtain ⟨w', hr, hF⟩ := h ⟨none, op, ty, pos, af, g⟩ a.eval rfl ha.ag
  unfold Oper.wp
  rw [hr]
  exact hn _ _ ⟨_, ha.put_none, hk _ hF⟩
theorem cF {d : Tmp} {op : Op} {ty : TypeId} {pos : String} {af : Array Edge} {g : Option (Nat × Bool)} {F : Value → World → Prop} (h : RC P op ρ w F) (hd : Nat.blt d n = true)
    (hk : ∀ v w', F v w' → K (upd ρ d v) w') : OW P n ⟨some d, op, ty, pos, af, g⟩ K ρ w := by
  unfold OW
  intro a Q next ha hn
  obtain ⟨f, args, w1, hr, hc⟩ := h ⟨some d, op, ty, pos, af, g⟩ a.eval rfl ha.ag
  unfold Oper.wp
  rw [hr]
  refine Calls.mono hc ?_
  rintro e w2 ⟨v, rfl, hF⟩
  exact hn _ _ ⟨_, ha.put hd, hk _ _ hF⟩
end
def rvIs (P : Program) (ρ : Env) (w : World) : ResultVar → Value → Prop
  | .tmp t, v => ρ t = some v
  | .cell t ty, v => ∃ a, ρ t = some (.pointer (some a)) ∧ (loadVar ty a).run P w = .ok v w
@[irreducible] def ResV (P : Program) (ρ : Env) (w : World) (rs : Array ResultVar) (v : Value) : Prop :=
  ∀ n a fn, Fr n a ρ → fn.results = rs → (results fn a.tmps).run P w = .ok v w
@[reducible] def postQ (P : Program) (rs : Array ResultVar) (F : Value → World → Prop) : QE
  | .ret, ρ, w => ∃ v, ResV P ρ w rs v ∧ F v w
  | .normal, ρ, w => ∃ v, ResV P ρ w rs v ∧ F v w
  | _, _, _ => False
section
variable {P : Program} {ρ : Env} {w : World}
theorem rv_tmp {a : Act} {n : Nat} (ha : Fr n a ρ) {t : Tmp} {v : Value} (h : rvIs P ρ w (.tmp t) v) : a.tmps[t]?.getD undef = v := by
  have := ha.get _ _ h; simp [this]
theorem rv_cell {a : Act} {n : Nat} (ha : Fr n a ρ) {t : Tmp} {ty : TypeId} {v : Value} (h : rvIs P ρ w (.cell t ty) v) :
    ∃ p, a.tmps[t]?.getD undef = .pointer (some p) ∧ (loadVar ty p).run P w = .ok v w := by
  obtain ⟨p, hp, hl⟩ := h
  have := ha.get _ _ hp
  exact ⟨p, by simp [this], hl⟩
theorem res1 {r : ResultVar} {v : Value} (h : rvIs P ρ w r v) : ResV P ρ w #[r] v := by
  unfold ResV
  intro n a fn ha hr
  cases r with
  | tmp t => have := rv_tmp ha h; simp [results, hr, this]
  | cell t ty => obtain ⟨p, h1, h2⟩ := rv_cell ha h; simp [results, hr, h1, h2, asAddr]
theorem res2 {r s : ResultVar} {v u : Value} (h : rvIs P ρ w r v) (k : rvIs P ρ w s u) : ResV P ρ w #[r, s] (.tuple #[v, u]) := by
  unfold ResV
  intro n a fn ha hr
  cases r with
  | tmp t =>
    have h1 := rv_tmp ha h
    cases s with
    | tmp t' => have h2 := rv_tmp ha k; simp [results, hr, h1, h2]
    | cell t' ty' => obtain ⟨p, k1, k2⟩ := rv_cell ha k; simp [results, hr, h1, k1, k2, asAddr]
  | cell t ty =>
    obtain ⟨p, h1, h2⟩ := rv_cell ha h
    cases s with
    | tmp t' => have k1 := rv_tmp ha k; simp [results, hr, h1, h2, k1, asAddr]
    | cell t' ty' => obtain ⟨p', k1, k2⟩ := rv_cell ha k; simp [results, hr, h1, h2, k1, k2, asAddr]
theorem res3 {r : ResultVar} {s t : Tmp} {v u x : Value} (h : rvIs P ρ w r v) (k : rvIs P ρ w (.tmp s) u) (l : rvIs P ρ w (.tmp t) x) : ResV P ρ w #[r, .tmp s, .tmp t] (.tuple #[v, u, x]) := by
  unfold ResV
  intro n a fn ha hr
  have h2 := rv_tmp ha k
  have h3 := rv_tmp ha l
  cases r with
  | tmp t => have h1 := rv_tmp ha h; simp [results, hr, h1, h2, h3]
  | cell t ty => obtain ⟨p, h1, h1'⟩ := rv_cell ha h; simp [results, hr, h1, h1', h2, h3, asAddr]
def envF : Nat → List Value → Env
  | _, [] => emp
  | i, v :: r => upd (envF (i + 1) r) i v
theorem envF_get : ∀ (l : List Value) (i t : Nat) (v : Value), envF i l t = some v → i ≤ t ∧ l[t - i]? = some v
  | [], _, _, _, h => by cases h
  | x :: r, i, t, v, h => by
    simp only [envF] at h
    by_cases hti : t = i
    · subst hti; rw [upd_same] at h; exact ⟨Nat.le_refl _, by simpa using h⟩
    · rw [upd_other _ _ _ _ hti] at h
      obtain ⟨h1, h2⟩ := envF_get r (i + 1) t v h
      refine ⟨by omega, ?_⟩
      have : t - i = (t - (i + 1)) + 1 := by omega
      rw [this]
      simpa using h2
theorem calls_intro {f : FuncId} {fn : Func} {c : Code} {F : Value → World → Prop} (hf : P.funcs[f]? = some fn) (hb : fn.body = some c) (l : List Value)
    (hl : Nat.ble l.length fn.ntmps = true) (h : EW P fn.ntmps c (postQ P fn.results F) (envF 0 l) w) : CallsV P f l.toArray w F := by
  have hl' : l.length ≤ fn.ntmps := by simpa using hl
  refine calls_of_wp hf hb ?_
  unfold EW at h
  refine wp_mono (h _ ⟨rfl, by simp; omega, fun t v ht => ?_⟩) ?_
  · obtain ⟨_, h2⟩ := envF_get l 0 t v ht
    simp only [Nat.sub_zero] at h2
    have hlt : t < l.length := by
      rcases Nat.lt_or_ge t l.length with h' | h'
      · exact h'
      · simp [List.getElem?_eq_none h'] at h2
    simp only []
    rw [Array.getElem?_append_left (by simpa using hlt)]
    simpa using h2
  · rintro e a' w' ⟨ρ', hf', q⟩
    cases e with
    | normal => obtain ⟨v, hv, hF⟩ := q; unfold ResV at hv; exact ⟨hf'.nodef, v, hv _ a' fn hf' rfl, v, rfl, hF⟩
    | ret => obtain ⟨v, hv, hF⟩ := q; unfold ResV at hv; exact ⟨hf'.nodef, v, hv _ a' fn hf' rfl, v, rfl, hF⟩
    | exit i => exact q.elim
    | goto l => exact q.elim
    | panic c => exact q.elim
    | outgrown => exact q.elim
theorem aT {f : FuncId} {fn : Func} {c : Code} {F : Value → World → Prop} {n : Nat} {rs : Array ResultVar} (l : List Value) (hf : P.funcs[f]? = some fn) (hn : fn.ntmps = n) (hr : fn.results = rs) (hb : fn.body = some c)
    (hl : Nat.ble l.length n = true) (h : EW P n c (postQ P rs F) (envF 0 l) w) : CallsV P f l.toArray w F := by
  subst hn hr
  exact calls_intro hf hb l hl h
end
end Go.Proofs.YtgpfjlfkaoffeaaGreatDoor

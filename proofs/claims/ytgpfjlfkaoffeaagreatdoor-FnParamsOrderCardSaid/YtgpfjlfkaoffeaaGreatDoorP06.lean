/- The proof layer of this claim, sixth part: statements whose order is open. Whatever is pure may be taken first; the rest is told order by order. The proof layer of this claim, seventh part: short words, bytes in memory, arithmetic. -/
import Derived.Test.YtgpfjlfkaoffeaaGreatDoorP05
import Derived.OrdersHeld
import Derived.IntWalk
set_option linter.all false
namespace Go.Proofs.YtgpfjlfkaoffeaaGreatDoor
open Go
section
variable {P : Program} {ops : Array Oper} {Q : Exit → Act → World → Prop} {F : World → Prop} {pend : List Nat}
def lateAt (ops : Array Oper) (pend : List Nat) (i : Nat) : Bool :=
  match ops[i]? with
  | some o => pend.all fun p => o.after.any fun e => Region.binds .any e && e.on == p
  | none => false
def AnyE (P : Program) (ops : Array Oper) (Q : Exit → Act → World → Prop) (F : World → Prop) (pend : List Nat) : Nat → Array Bool → Act → World → Prop
  | 0, listed, a, w => Region.ready .any ops listed = [] ∧ Q .normal a w
  | fuel + 1, listed, a, w =>
    (Region.ready .any ops listed = [] → Q .normal a w) ∧
    ∀ i ∈ Region.ready .any ops listed, wpOp P ops Q i (fun a' w' => (w' = w ∨ (lateAt ops pend i = false → F w')) ∧ AnyE P ops Q F pend fuel (listed.setIfInBounds i true) a' w') a w
theorem any_of_anyE : ∀ (fuel : Nat) (listed : Array Bool) (a : Act) (w : World), AnyE P ops Q F pend fuel listed a w → wpAny P .any ops Q fuel listed a w
  | 0, _, _, _, h => h
  | fuel + 1, _, _, _, h => ⟨h.1, fun i hi => wpOp_mono (fun a' w' h' => any_of_anyE fuel _ a' w' h'.2) (h.2 i hi)⟩
def InF (pend : List Nat) (F : World → Prop) (i : Nat) (w : World) : Prop := i ∈ pend → F w
theorem anyE_first {i : Nat} {oi : Oper} {v : Value} (hi : ops[i]? = some oi) (hsel : ∀ (j : Nat) (o : Oper) cs b, ops[j]? = some o → o.op ≠ .select cs b)
    (hQ : ∀ c a w, Q (.panic c) (a.put oi.dst v) w → Q (.panic c) a w) :
    ∀ (fuel : Nat) (listed : Array Bool) (a : Act) (w : World),
      (∀ j oj, ops[j]? = some oj → j ≠ i → listed.getD j true = false → (∀ e ∈ oj.after, Region.binds .any e = true → e.on ≠ i) → oi.apart ops oj = true) →
      i ∈ Region.ready .any ops listed → YieldsIf P ops (InF pend F i) oi v a → InF pend F i w →
      AnyE P ops Q F pend fuel (listed.setIfInBounds i true) (a.put oi.dst v) w → AnyE P ops Q F pend (fuel + 1) listed a w := by
  intro fuel
  induction fuel with
  | zero =>
    intro listed a w _ hr hy hS H
    refine ⟨fun h => (by rw [h] at hr; cases hr), fun j hj => ?_⟩
    by_cases hji : j = i
    · subst hji; exact hy.wpOp hi hS ⟨.inl rfl, H⟩
    · have := ready_mono hj hji
      rw [H.1] at this
      cases this
  | succ fuel ih =>
    intro listed a w hfree hr hy hS H
    refine ⟨fun h => (by rw [h] at hr; cases hr), fun j hj => ?_⟩
    by_cases hji : j = i
    · subst hji; exact hy.wpOp hi hS ⟨.inl rfl, H⟩
    · have h1 := H.2 j (ready_mono hj hji)
      obtain ⟨hjun, oj, hoj, hall⟩ := mem_ready.1 hj
      have hiun := (mem_ready.1 hr).1
      have hnot : ∀ e ∈ oj.after, Region.binds .any e = true → e.on ≠ i := fun e he hb heq => by
        have h1 := hall e he hb
        rw [heq] at h1
        rcases Nat.lt_or_ge i listed.size with h' | h'
        · simp [h'] at hiun h1; rw [hiun] at h1; cases h1
        · simp [Array.getElem?_eq_none h'] at h1
      have h2 := wpOp_putIf hoj (hfree j oj hoj hji hjun hnot) (fun cs b => hsel i oi cs b hi) (fun cs b => hsel j oj cs b hoj) hQ hy h1
      have hfree' : ∀ k ok, ops[k]? = some ok → k ≠ i → (listed.setIfInBounds j true).getD k true = false →
          (∀ e ∈ ok.after, Region.binds .any e = true → e.on ≠ i) → oi.apart ops ok = true := fun k ok hk hki hun hno => by
        refine hfree k ok hk hki ?_ hno
        by_cases hjk : j = k
        · subst hjk; exact hjun
        · rw [getD_set_ne true hjk] at hun; exact hun
      refine wpOp_mono ?_ h2
      rintro a' w' ⟨hy', hF', H'⟩
      rw [Array.setIfInBounds_comm _ _ (Ne.symm hji)] at H'
      have hS' : InF pend F i w' := fun hp => by
        rcases hF' with rfl | hF'
        · exact hS hp
        · refine hF' ?_
          simp only [lateAt, hoj]
          rw [List.all_eq_false]
          refine ⟨i, hp, ?_⟩
          rw [Array.any_eq_true']
          rintro ⟨e, he, hb⟩
          simp only [Bool.and_eq_true, beq_iff_eq] at hb
          exact hnot e he hb.1 hb.2
      exact ⟨hF', ih (listed.setIfInBounds j true) a' w' hfree' (ready_mono hr (Ne.symm hji)) hy' hS' H'⟩
end
def SW (w w' : World) : Prop := w'.heap = w.heap ∧ w'.os = w.os ∧ w'.tape = w.tape ∧ w'.output = w.output
theorem SW.refl (w : World) : SW w w := ⟨rfl, rfl, rfl, rfl⟩
theorem SW.st {w0 : Base} {w w' : World} {L : List (Nat × Obj)} (h : SW w w') (hs : St w0 w L) : St w0 w' L := hs.same h.1 h.2.1 h.2.2.1 h.2.2.2
def nQ (n : Nat) (K : Env → World → Prop) : Exit → Act → World → Prop
  | .normal, a, w => ∃ ρ, Fr n a ρ ∧ K ρ w
  | _, _, _ => False
@[irreducible] def AW (P : Program) (n : Nat) (ops : Array Oper) (F : World → Prop) (pend : List Nat) (K : Env → World → Prop) (fuel : Nat) (listed : Array Bool) (ρ : Env) (w : World) : Prop :=
  ∀ a, Fr n a ρ → AnyE P ops (nQ n K) F pend fuel listed a w
section
variable {P : Program} {n : Nat} {ops : Array Oper} {F : World → Prop} {pend : List Nat} {K : Env → World → Prop} {ρ : Env} {w : World} {fuel : Nat} {listed : Array Bool}
theorem e_draw {id : Nat} {l : List Oper} {Q : QE} (F : World → Prop) (pend : List Nat) (hm : P.follows .mixedOrders = true)
    (h : ∀ w1, SW w w1 → AW P n l.toArray F pend (fun ρ' w' => Q .normal ρ' w') l.length (Array.replicate l.length false) ρ w1) : EW P n (.region id l.toArray true) Q ρ w := by
  unfold EW
  intro a ha
  have h1 := h w.drew ⟨rfl, rfl, rfl, rfl⟩
  unfold AW at h1
  have h2 := h1 a ha
  have e1 : l.toArray.size = l.length := by simp
  have h3 : (Code.region id l.toArray true).wp P (nQ n fun ρ' w' => Q .normal ρ' w') a w := wp_region_any hm (any_of_anyE _ _ _ _ (by rw [e1]; exact h2))
  refine wp_mono h3 ?_
  rintro e a' w' q
  cases e with
  | normal => exact q
  | exit i => exact q.elim
  | goto l => exact q.elim
  | ret => exact q.elim
  | panic c => exact q.elim
  | outgrown => exact q.elim
theorem bV {id : Nat} {l : List Oper} {Q : QE} {w0 : Base} {L : List (Nat × Obj)} (hs : St w0 w L) (pend : List Nat) (hm : P.follows .mixedOrders = true)
    (h : ∀ w1, St w0 w1 L → AW P n l.toArray (fun w2 => St w0 w2 L) pend (fun ρ' w' => Q .normal ρ' w') l.length (Array.replicate l.length false) ρ w1) : EW P n (.region id l.toArray true) Q ρ w :=
  e_draw _ pend hm fun w1 hw1 => h w1 (hw1.st hs)
theorem bS (hr : Region.ready .any ops listed = []) (h : K ρ w) : AW P n ops F pend K fuel listed ρ w := by
  unfold AW
  intro a ha
  cases fuel with
  | zero => exact ⟨hr, ρ, ha, h⟩
  | succ k => exact ⟨fun _ => ⟨ρ, ha, h⟩, by rw [hr]; simp⟩
def mayTake (ops : Array Oper) (listed : Array Bool) (i : Nat) : Bool := Region.noSelect ops && Region.free .any ops listed i && (Region.ready .any ops listed).contains i
theorem a_take_gen (i : Nat) {oi : Oper} {v : Value} (hi : ops[i]? = some oi) (hm : mayTake ops listed i = true) (hF : i ∈ pend → F w) (hy : ∀ a, Fr n a ρ → YieldsIf P ops (InF pend F i) oi v a)
    (hput : ∀ a, Fr n a ρ → ∃ ρ', Fr n (a.put oi.dst v) ρ' ∧ AW P n ops F pend K fuel (listed.setIfInBounds i true) ρ' w) : AW P n ops F pend K (fuel + 1) listed ρ w := by
  simp only [mayTake, Bool.and_eq_true] at hm
  unfold AW
  intro a ha
  obtain ⟨ρ', hf, hk⟩ := hput a ha
  unfold AW at hk
  exact anyE_first hi (Region.noSelect_spec hm.1.1) (fun _ _ _ h => h) fuel listed a w (Region.free_spec hi hm.1.2) (by simpa using hm.2) (hy a ha) hF (hk _ hf)
theorem a_take {d : Tmp} {op : Op} {ty : TypeId} {pos : String} {af : Array Edge} {v : Value} {l : List Oper} (i : Nat) (hi : lget l i = some ⟨some d, op, ty, pos, af, none⟩) (hm : mayTake l.toArray listed i = true)
    (hpw : ∀ w', (i ∈ pend → F w') → PO P op ρ w' v) (hF : i ∈ pend → F w) (hd : Nat.blt d n = true)
    (h : AW P n l.toArray F pend K fuel (listed.setIfInBounds i true) (upd ρ d v) w) : AW P n l.toArray F pend K (fuel + 1) listed ρ w := by
  rw [lget_eq] at hi
  refine a_take_gen i (by simpa using hi) hm hF (fun a ha => .inl ⟨rfl, fun w' hw' => hpw w' hw' _ _ rfl ha.ag⟩) (fun a ha => ⟨_, ha.put hd, h⟩)
theorem aK {d : Tmp} {op : Op} {ty : TypeId} {pos : String} {af : Array Edge} {v : Value} {l : List Oper} (i : Nat) (hi : lget l i = some ⟨some d, op, ty, pos, af, none⟩) (hm : mayTake l.toArray listed i = true)
    (hp : ∀ w', PO P op ρ w' v) (hni : pend.contains i = false) (hd : Nat.blt d n = true)
    (h : AW P n l.toArray F pend K fuel (listed.setIfInBounds i true) (upd ρ d v) w) : AW P n l.toArray F pend K (fuel + 1) listed ρ w :=
  a_take i hi hm (fun w' _ => hp w') (fun hm => by simp at hni; exact (hni hm).elim) hd h
theorem bF {d : Tmp} {op : Op} {ty : TypeId} {pos : String} {af : Array Edge} {v : Value} {l : List Oper} (i : Nat) (hi : lget l i = some ⟨some d, op, ty, pos, af, none⟩) (hm : mayTake l.toArray listed i = true)
    (hF : F w) (hin : pend.contains i = true) (hp : ∀ w', F w' → PO P op ρ w' v) (hd : Nat.blt d n = true)
    (h : AW P n l.toArray F pend K fuel (listed.setIfInBounds i true) (upd ρ d v) w) : AW P n l.toArray F pend K (fuel + 1) listed ρ w :=
  a_take i hi hm (fun w' hw' => hp w' (hw' (by simpa using hin))) (fun _ => hF) hd h
theorem cK {d j t : Tmp} {op : Op} {ty : TypeId} {pos : String} {af : Array Edge} {v : Value} {l : List Oper} {b want : Bool} (i : Nat) (hi : lget l i = some ⟨some d, op, ty, pos, af, some (j, want)⟩) (hm : mayTake l.toArray listed i = true)
    (hj : guardOf l.toArray j = some t) (ht : ρ t = some (.bool b)) (hb : b = want) (hF : i ∈ pend → F w) (hp : ∀ w', (i ∈ pend → F w') → PO P op ρ w' v) (hd : Nat.blt d n = true)
    (h : AW P n l.toArray F pend K fuel (listed.setIfInBounds i true) (upd ρ d v) w) : AW P n l.toArray F pend K (fuel + 1) listed ρ w := by
  rw [lget_eq] at hi
  refine a_take_gen i (by simpa using hi) hm hF (fun a ha => .inl ⟨?_, fun w' hw' => hp w' hw' _ _ rfl ha.ag⟩) (fun a ha => ⟨_, ha.put hd, h⟩)
  rw [wanted_of (b := b) (o := ⟨some d, op, ty, pos, af, some (j, want)⟩) ha rfl hj ht]; simp [hb]
theorem a_gskip {d j t : Tmp} {op : Op} {ty : TypeId} {pos : String} {af : Array Edge} {l : List Oper} {b want : Bool} (i : Nat) (hi : lget l i = some ⟨some d, op, ty, pos, af, some (j, want)⟩) (hm : mayTake l.toArray listed i = true)
    (hj : guardOf l.toArray j = some t) (ht : ρ t = some (.bool b)) (hb : b = !want) (hF : i ∈ pend → F w) (hd : Nat.blt d n = true)
    (h : AW P n l.toArray F pend K fuel (listed.setIfInBounds i true) (upd ρ d undef) w) : AW P n l.toArray F pend K (fuel + 1) listed ρ w := by
  rw [lget_eq] at hi
  refine a_take_gen i (by simpa using hi) hm hF (fun a ha => .inr ⟨?_, rfl⟩) (fun a ha => ⟨_, ha.put hd, h⟩)
  rw [wanted_of (b := b) (o := ⟨some d, op, ty, pos, af, some (j, want)⟩) ha rfl hj ht]; subst hb; cases want <;> simp
theorem wpOp_of_ow {i : Nat} {o : Oper} {Q : Exit → Act → World → Prop} {K' : Act → World → Prop} {a : Act} {K : Env → World → Prop} (hi : ops[i]? = some o) (hg : o.guard = none) (ha : Fr n a ρ) (h : OW P n o K ρ w)
    (hk : ∀ a' w', (∃ ρ', Fr n a' ρ' ∧ K ρ' w') → K' a' w') : wpOp P ops Q i K' a w := by
  unfold OW at h
  unfold wpOp
  simp only [hi]
  rw [if_pos (by simp [Region.wanted, hg])]
  exact .inl (h a Q K' ha hk)
theorem bP {d : Option Tmp} {op : Op} {ty : TypeId} {pos : String} {af : Array Edge} {l : List Oper} (i : Nat) (hr : Region.ready .any l.toArray listed = [i]) (hi : lget l i = some ⟨d, op, ty, pos, af, none⟩)
    (h : OW P n ⟨d, op, ty, pos, af, none⟩ (fun ρ' w' => (lateAt l.toArray pend i = false → F w') ∧ AW P n l.toArray F pend K fuel (listed.setIfInBounds i true) ρ' w') ρ w) :
    AW P n l.toArray F pend K (fuel + 1) listed ρ w := by
  unfold AW
  rw [lget_eq] at hi
  intro a ha
  refine ⟨fun h0 => absurd (hr.symm.trans h0) (by simp), fun j hj => ?_⟩
  rw [hr] at hj
  simp at hj
  subst hj
  refine wpOp_of_ow (by simpa using hi) rfl ha h ?_
  rintro a' w' ⟨ρ', hf, hl, hk⟩
  unfold AW at hk
  exact ⟨.inr hl, hk _ hf⟩
theorem a_two {d d' : Option Tmp} {op op' : Op} {ty ty' : TypeId} {pos pos' : String} {af af' : Array Edge} {l : List Oper} (i i' : Nat) (hr : Region.ready .any l.toArray listed = [i, i'])
    (hi : lget l i = some ⟨d, op, ty, pos, af, none⟩) (hi' : lget l i' = some ⟨d', op', ty', pos', af', none⟩)
    (h : OW P n ⟨d, op, ty, pos, af, none⟩ (fun ρ' w' => (lateAt l.toArray pend i = false → F w') ∧ AW P n l.toArray F pend K fuel (listed.setIfInBounds i true) ρ' w') ρ w)
    (h' : OW P n ⟨d', op', ty', pos', af', none⟩ (fun ρ' w' => (lateAt l.toArray pend i' = false → F w') ∧ AW P n l.toArray F pend K fuel (listed.setIfInBounds i' true) ρ' w') ρ w) :
    AW P n l.toArray F pend K (fuel + 1) listed ρ w := by
  unfold AW
  rw [lget_eq] at hi hi'
  intro a ha
  refine ⟨fun h0 => absurd (hr.symm.trans h0) (by simp), fun j hj => ?_⟩
  rw [hr] at hj
  simp at hj
  rcases hj with rfl | rfl
  · refine wpOp_of_ow (by simpa using hi) rfl ha h ?_
    rintro a' w' ⟨ρ', hf, hl, hk⟩
    unfold AW at hk
    exact ⟨.inr hl, hk _ hf⟩
  · refine wpOp_of_ow (by simpa using hi') rfl ha h' ?_
    rintro a' w' ⟨ρ', hf, hl, hk⟩
    unfold AW at hk
    exact ⟨.inr hl, hk _ hf⟩
theorem dI {d : Tmp} {op : Op} {ty : TypeId} {pos : String} {af : Array Edge} {v : Value} {l : List Oper} (i : Nat) (hi : lget l i = some ⟨some d, op, ty, pos, af, none⟩)
    (hp : ∀ w', PO P op ρ w' v) (hni : pend.contains i = false) (hd : Nat.blt d n = true)
    (h : AW P n l.toArray F pend K fuel (listed.setIfInBounds i true) (upd ρ d v) w) (hm : mayTake l.toArray listed i = true := by decide +kernel) : AW P n l.toArray F pend K (fuel + 1) listed ρ w := aK i hi hm hp hni hd h
theorem dJ {d : Tmp} {op : Op} {ty : TypeId} {pos : String} {af : Array Edge} {v : Value} {l : List Oper} (i : Nat) (hi : lget l i = some ⟨some d, op, ty, pos, af, none⟩)
    (hF : F w) (hin : pend.contains i = true) (hp : ∀ w', F w' → PO P op ρ w' v) (hd : Nat.blt d n = true)
    (h : AW P n l.toArray F pend K fuel (listed.setIfInBounds i true) (upd ρ d v) w) (hm : mayTake l.toArray listed i = true := by decide +kernel) : AW P n l.toArray F pend K (fuel + 1) listed ρ w := bF i hi hm hF hin hp hd h
theorem dK {d j t : Tmp} {op : Op} {ty : TypeId} {pos : String} {af : Array Edge} {v : Value} {l : List Oper} {b want : Bool} (i : Nat) (hi : lget l i = some ⟨some d, op, ty, pos, af, some (j, want)⟩)
    (hj : guardOf l.toArray j = some t) (ht : ρ t = some (.bool b)) (hb : b = want) (hF : i ∈ pend → F w) (hp : ∀ w', (i ∈ pend → F w') → PO P op ρ w' v) (hd : Nat.blt d n = true)
    (h : AW P n l.toArray F pend K fuel (listed.setIfInBounds i true) (upd ρ d v) w) (hm : mayTake l.toArray listed i = true := by decide +kernel) : AW P n l.toArray F pend K (fuel + 1) listed ρ w := cK i hi hm hj ht hb hF hp hd h
theorem dL {d : Option Tmp} {op : Op} {ty : TypeId} {pos : String} {af : Array Edge} {l : List Oper} (i : Nat) (hi : lget l i = some ⟨d, op, ty, pos, af, none⟩)
    (h : OW P n ⟨d, op, ty, pos, af, none⟩ (fun ρ' w' => (lateAt l.toArray pend i = false → F w') ∧ AW P n l.toArray F pend K fuel (listed.setIfInBounds i true) ρ' w') ρ w) (hr : Region.ready .any l.toArray listed = [i] := by decide +kernel) :
    AW P n l.toArray F pend K (fuel + 1) listed ρ w := bP i hr hi h
end
end Go.Proofs.YtgpfjlfkaoffeaaGreatDoor
namespace Go.Proofs.YtgpfjlfkaoffeaaGreatDoor
open Go
abbrev rep (n : Nat) (v : Value) : List Value := List.replicate n v
section
variable {P : Program} {n : Nat} {ρ : Env} {w0 : Base} {w : World} {L : List (Nat × Obj)} {K : Env → World → Prop} {ops : Array Oper} {rest : List Oper}
theorem lp {d : Tmp} {op : Op} {ty : TypeId} {pos : String} {af : Array Edge} {v : Value} (h : PO P op ρ w v) (hd : Nat.blt d n = true) (hk : LW P n ops rest K (upd ρ d v) w) :
    LW P n ops (⟨some d, op, ty, pos, af, none⟩ :: rest) K ρ w := aJ (o_pure h hd hk)
theorem dM {d : Tmp} {x : Operand} {ty : TypeId} {pos : String} {af : Array Edge} {v : Value} (h : ev ρ x = some v) (hd : Nat.blt d n = true) (hk : LW P n ops rest K (upd ρ d v) w) :
    LW P n ops (⟨some d, .move x, ty, pos, af, none⟩ :: rest) K ρ w := lp (aC h) hd hk
theorem dN {d : Tmp} {x : Operand} {ty : TypeId} {pos : String} {af : Array Edge} {v : Value} (h : ev ρ x = some v) (hd : Nat.blt d n = true) (hk : LW P n ops rest K (upd ρ d v) w) :
    LW P n ops (⟨some d, .assign x, ty, pos, af, none⟩ :: rest) K ρ w := lp (aD h) hd hk
theorem dO {d : Tmp} {x : Operand} {i : Nat} {l : List Value} {ty : TypeId} {pos : String} {af : Array Edge} {v : Value} (h : ev ρ x = some (.tuple l.toArray)) (hi : lget l i = some v) (hd : Nat.blt d n = true)
    (hk : LW P n ops rest K (upd ρ d v) w) : LW P n ops (⟨some d, .extract x i, ty, pos, af, none⟩ :: rest) K ρ w := lp (aI h hi) hd hk
theorem lg {d j t : Tmp} {op : Op} {ty : TypeId} {pos : String} {af : Array Edge} {v : Value} {b want : Bool} (hj : guardOf ops j = some t) (ht : ρ t = some (.bool b)) (hb : b = want) (h : PO P op ρ w v) (hd : Nat.blt d n = true)
    (hk : LW P n ops rest K (upd ρ d v) w) : LW P n ops (⟨some d, op, ty, pos, af, some (j, want)⟩ :: rest) K ρ w := cX hj ht hb (o_pure h hd hk)
end
theorem i64w {n : Int} (h : -9223372036854775808 ≤ n ∧ n ≤ 9223372036854775807) : IntKind.i64.wrap n = n := by
  rw [IntKind.wrap_i64]; omega
theorem u8w {n : Int} (h : 0 ≤ n ∧ n ≤ 255) : IntKind.u8.wrap n = n := by
  have : IntKind.u8.wrap n = n % 256 := by simp [IntKind.wrap, IntKind.signed, IntKind.bits]
  rw [this]; omega
theorem u16w {n : Int} (h : 0 ≤ n ∧ n ≤ 65535) : IntKind.u16.wrap n = n := by
  have : IntKind.u16.wrap n = n % 65536 := by simp [IntKind.wrap, IntKind.signed, IntKind.bits]
  rw [this]; omega
theorem u32w {n : Int} (h : 0 ≤ n ∧ n ≤ 4294967295) : IntKind.u32.wrap n = n := by
  have : IntKind.u32.wrap n = n % 4294967296 := by simp [IntKind.wrap, IntKind.signed, IntKind.bits]
  rw [this]; omega
theorem u16m (n : Int) : IntKind.u16.wrap n = n % 65536 := by simp [IntKind.wrap, IntKind.signed, IntKind.bits]
theorem u32m (n : Int) : IntKind.u32.wrap n = n % 4294967296 := by simp [IntKind.wrap, IntKind.signed, IntKind.bits]
theorem SW.cell {w w' : World} (h : SW w w') {a : Addr} {v : Value} (hc : w.cell? a = some v) : w'.cell? a = some v := by
  unfold World.cell? at *; rw [h.1]; exact hc
theorem SW.heap {w w' : World} (h : SW w w') {b : Nat} {o : Obj} (hc : w.heap[b]? = some o) : w'.heap[b]? = some o := by rw [h.1]; exact hc
theorem SW.trans {w w' w2 : World} (h : SW w w') (k : SW w' w2) : SW w w2 := ⟨k.1.trans h.1, k.2.1.trans h.2.1, k.2.2.1.trans h.2.2.1, k.2.2.2.trans h.2.2.2⟩
theorem SW.symm {w w' : World} (h : SW w w') : SW w' w := ⟨h.1.symm, h.2.1.symm, h.2.2.1.symm, h.2.2.2.symm⟩
def Vw.cell (V : Vw) (b q : Nat) : Option Value :=
  match V b with
  | some (.cells cs _ _) => cs[q]?
  | _ => none
theorem Vw.cell_in {V : Vw} {w : World} (hV : V.In w) {b q : Nat} {u : Value} (h : V.cell b q = some u) : w.cell? ⟨b, q, none⟩ = some u := by
  unfold Vw.cell at h
  split at h
  · rename_i cs E fz hb
    simp [World.cell?, hV _ _ hb, h]
  · cases h
theorem Vw.cell_le {V V' : Vw} (hV : V.le V') {b q : Nat} {u : Value} (h : V.cell b q = some u) : V'.cell b q = some u := by
  unfold Vw.cell at *
  split at h
  · rename_i cs E fz hb
    simp [hV _ _ hb, h]
  · cases h
theorem Vw.cell_of {V : Vw} {b q : Nat} {u : Value} {l : List Value} {E : TypeId} {fz : Nat × Nat} (h : V b = some (.cells l.toArray E fz)) (hu : l[q]? = some u) : V.cell b q = some u := by
  simp [Vw.cell, h, hu]
def SlV (V : Vw) (size : Nat) (v : Value) (n : Nat) (xs : List Value) : Prop :=
  xs.length = n * size ∧ ((v = .slice none 0 0 ∧ n = 0) ∨ ∃ b p cap, v = .slice (some ⟨b, p, none⟩) n cap ∧ n ≤ cap ∧ ∀ j u, xs[j]? = some u → V.cell b (p + j) = some u)
theorem SlV.mono {V V' : Vw} {size n : Nat} {v : Value} {xs : List Value} (hV : V.le V') (h : SlV V size v n xs) : SlV V' size v n xs := by
  refine ⟨h.1, h.2.imp id ?_⟩
  rintro ⟨b, p, cap, h1, h2, h3⟩
  exact ⟨b, p, cap, h1, h2, fun j u hu => Vw.cell_le hV (h3 j u hu)⟩
theorem SlV.nil (V : Vw) (size : Nat) : SlV V size (.slice none 0 0) 0 [] := ⟨by simp, .inl ⟨rfl, rfl⟩⟩
theorem SlV.cells {V : Vw} {size n : Nat} {xs sp : List Value} {b cap : Nat} {E : TypeId} {fz : Nat × Nat} (h : V b = some (.cells (xs ++ sp).toArray E fz)) (hl : xs.length = n * size) (hc : n ≤ cap) : SlV V size (.slice (some ⟨b, 0, none⟩) n cap) n xs := by
  refine ⟨hl, .inr ⟨b, 0, cap, rfl, hc, fun j u hu => ?_⟩⟩
  rw [Nat.zero_add]
  refine Vw.cell_of h ?_
  have : j < xs.length := by
    rcases Nat.lt_or_ge j xs.length with h' | h'
    · exact h'
    · simp [List.getElem?_eq_none h'] at hu
  rw [List.getElem?_append_left this]
  exact hu
theorem SlV.form {V : Vw} {size n : Nat} {v : Value} {xs : List Value} (h : SlV V size v n xs) :
    ∃ a cap, v = .slice a n cap ∧ n ≤ cap ∧ (0 < n → ∃ b p, a = some ⟨b, p, none⟩ ∧ ∀ j u, xs[j]? = some u → V.cell b (p + j) = some u) := by
  rcases h.2 with ⟨h1, h2⟩ | ⟨b, p, cap, h1, h2, h3⟩
  · subst h2; exact ⟨none, 0, h1, Nat.le_refl _, fun h => absurd h (by omega)⟩
  · exact ⟨some ⟨b, p, none⟩, cap, h1, h2, fun _ => ⟨b, p, rfl, h3⟩⟩
theorem SlV.src {P : Program} {w : World} {V : Vw} {size n : Nat} {v : Value} {xs : List Value} (h : SlV V size v n xs) (hV : V.In w) : Src P w size v n xs := by
  rcases h.2 with ⟨h1, h2⟩ | ⟨b, p, cap, h1, h2, h3⟩
  · subst h1 h2
    have : xs = [] := List.eq_nil_of_length_eq_zero (by simpa using h.1)
    subst this
    exact src_nil
  · subst h1
    exact src_slice h.1 fun j u hu => Vw.cell_in hV (h3 j u hu)
theorem Sl.give {E : TypeId} {size n : Nat} {w0 w : World} {V0 V : Vw} {L : List (Nat × Obj)} {v : Value} {xs : List Value} (h : Sl E size ⟨w0, V0, V⟩ w L v n xs) : ∃ V', V.le V' ∧ SlV V' size v n xs ∧ St ⟨w0, V0, V'⟩ w L := by
  rcases h.2 with ⟨rfl, rfl, hs⟩ | ⟨g, cap, sp, rfl, hl, hnc, hcm, hg, hs⟩
  · exact ⟨V, V.le_refl, ⟨h.1, .inl ⟨rfl, rfl⟩⟩, hs⟩
  · obtain ⟨V', h1, h2, h3⟩ := hs.give hg
    exact ⟨V', h1, SlV.cells h2 h.1 hnc, h3⟩
theorem Sl.size {E : TypeId} {size n : Nat} {w0 : Base} {w : World} {L : List (Nat × Obj)} {v : Value} {xs : List Value} (h : Sl E size w0 w L v n xs) : ∃ a cap, v = .slice a n cap := by
  rcases h.2 with ⟨rfl, rfl, hs⟩ | ⟨g, cap, sp, rfl, hl, hnc, hcm, hg, hs⟩
  · exact ⟨_, _, rfl⟩
  · exact ⟨_, _, rfl⟩
def Rows {α : Type} (size : Nat) (R : α → List Value → Prop) : List α → List Value → Prop
  | [], xs => xs = []
  | a :: as, xs => ∃ c rest, xs = c ++ rest ∧ c.length = size ∧ R a c ∧ Rows size R as rest
theorem Rows.len {α : Type} {size : Nat} {R : α → List Value → Prop} : ∀ {as : List α} {xs : List Value}, Rows size R as xs → xs.length = as.length * size
  | [], xs, h => by simp [Rows] at h; simp [h]
  | a :: as, xs, h => by
    obtain ⟨c, rest, rfl, h1, _, h2⟩ := h
    have := h2.len
    simp [h1, this, Nat.add_mul]; omega
theorem Rows.mono {α : Type} {size : Nat} {R R' : α → List Value → Prop} (hR : ∀ a c, R a c → R' a c) : ∀ {as : List α} {xs : List Value}, Rows size R as xs → Rows size R' as xs
  | [], xs, h => h
  | a :: as, xs, h => by
    obtain ⟨c, rest, rfl, h1, h3, h2⟩ := h
    exact ⟨c, rest, rfl, h1, hR _ _ h3, h2.mono hR⟩
theorem Rows.app {α : Type} {size : Nat} {R : α → List Value → Prop} {bs : List α} {ys : List Value} (k : Rows size R bs ys) : ∀ {as : List α} {xs : List Value}, Rows size R as xs → Rows size R (as ++ bs) (xs ++ ys)
  | [], xs, h => by simp [Rows] at h; simpa [h] using k
  | a :: as, xs, h => by
    obtain ⟨c, rest, rfl, h1, h3, h2⟩ := h
    exact ⟨c, rest ++ ys, by simp, h1, h3, Rows.app k h2⟩
theorem Rows.one {α : Type} {size : Nat} {R : α → List Value → Prop} {a : α} {c : List Value} (h : R a c) (hc : c.length = size) : Rows size R [a] c := ⟨c, [], by simp, hc, h, rfl⟩
theorem Rows.snoc {α : Type} {size : Nat} {R : α → List Value → Prop} {as : List α} {xs : List Value} {a : α} {c : List Value} (h : Rows size R as xs) (ha : R a c) (hc : c.length = size) : Rows size R (as ++ [a]) (xs ++ c) := Rows.app (Rows.one ha hc) h
theorem Rows.at {α : Type} {size : Nat} {R : α → List Value → Prop} : ∀ {as : List α} {xs : List Value}, Rows size R as xs → ∀ {i : Nat} {a : α}, as[i]? = some a → ∃ c, R a c ∧ c.length = size ∧ (xs.drop (i * size)).take size = c
  | [], xs, h, i, a, hi => by simp at hi
  | b :: as, xs, h, i, a, hi => by
    obtain ⟨c, rest, rfl, h1, h3, h2⟩ := h
    cases i with
    | zero =>
      simp at hi; subst hi
      exact ⟨c, h3, h1, by simp [← h1]⟩
    | succ i =>
      simp at hi
      obtain ⟨c', k1, k2, k3⟩ := h2.at hi
      refine ⟨c', k1, k2, ?_⟩
      have : (i + 1) * size = c.length + i * size := by rw [h1, Nat.add_mul]; omega
      rw [this, ← List.drop_drop, List.drop_left]
      exact k3
def byteVal (u : UInt8) : Value := .int .u8 u.toNat
def byteAt (l : List UInt8) (i : Nat) : Nat := (l.getD i 0).toNat
theorem cU (l : List UInt8) (i : Nat) : byteAt l i < 256 := UInt8.toNat_lt _
def RB (V : Vw) (v : Value) (l : List UInt8) : Prop := SlV V 1 v l.length (l.map byteVal)
theorem RB.mono {V V' : Vw} {v : Value} {l : List UInt8} (hV : V.le V') (h : RB V v l) : RB V' v l := SlV.mono hV h
theorem RB.nil (V : Vw) : RB V (.slice none 0 0) [] := SlV.nil V 1
theorem RB.oneCell {V : Vw} {v : Value} {l : List UInt8} (h : RB V v l) : v.oneCell' = true := by
  obtain ⟨a, cap, rfl, _⟩ := SlV.form h; rfl
theorem RB.form {V : Vw} {v : Value} {l : List UInt8} (h : RB V v l) :
    ∃ a cap, v = .slice a l.length cap ∧ l.length ≤ cap ∧ (0 < l.length → ∃ b p, a = some ⟨b, p, none⟩ ∧ ∀ i, i < l.length → V.cell b (p + i) = some (.int .u8 (byteAt l i))) := by
  obtain ⟨a, cap, h1, h2, h3⟩ := SlV.form h
  refine ⟨a, cap, h1, h2, fun h0 => ?_⟩
  obtain ⟨b, p, h4, h5⟩ := h3 h0
  refine ⟨b, p, h4, fun i hi => h5 i _ ?_⟩
  simp [byteVal, byteAt, List.getD, List.getElem?_eq_getElem hi]
theorem ldb {V : Vw} {w : World} {l : List UInt8} {b p : Nat} (hV : V.In w) (hc : ∀ i, i < l.length → V.cell b (p + i) = some (.int .u8 (byteAt l i))) {i : Int} (n : Nat) (hn : i = n) (hl : n < l.length) :
    w.cell? ⟨b, p + i.toNat * 1, none⟩ = some (.int .u8 (byteAt l n)) := by
  subst hn
  rw [Nat.mul_one, Int.toNat_natCast]
  exact Vw.cell_in hV (hc n hl)
theorem ofInt_toNat {n a : Nat} (h : a < 2 ^ n) : (BitVec.ofInt n (a : Int)).toNat = a := by
  rw [BitVec.toNat_ofInt, ← Int.natCast_emod, Int.toNat_natCast, Nat.mod_eq_of_lt h]
theorem bv_and {n a b : Nat} (ha : a < 2 ^ n) (hb : b < 2 ^ n) : (BitVec.ofInt n (a : Int) &&& BitVec.ofInt n (b : Int)).toNat = a &&& b := by rw [BitVec.toNat_and, ofInt_toNat ha, ofInt_toNat hb]
theorem bv_or {n a b : Nat} (ha : a < 2 ^ n) (hb : b < 2 ^ n) : (BitVec.ofInt n (a : Int) ||| BitVec.ofInt n (b : Int)).toNat = a ||| b := by rw [BitVec.toNat_or, ofInt_toNat ha, ofInt_toNat hb]
theorem bv_xor {n a b : Nat} (ha : a < 2 ^ n) (hb : b < 2 ^ n) : (BitVec.ofInt n (a : Int) ^^^ BitVec.ofInt n (b : Int)).toNat = a ^^^ b := by rw [BitVec.toNat_xor, ofInt_toNat ha, ofInt_toNat hb]
theorem u16and {a b : Nat} (ha : a < 65536) (hb : b < 65536) : bitsOf .and .u16 (a : Int) (b : Int) = ((a &&& b : Nat) : Int) := by
  have h : a &&& b < 65536 := Nat.lt_of_le_of_lt Nat.and_le_left ha
  have e := bv_and (n := 16) (a := a) (b := b) ha hb
  show IntKind.u16.wrap ((BitVec.ofInt 16 (a : Int) &&& BitVec.ofInt 16 (b : Int)).toNat : Int) = _
  rw [e, u16m]; omega
theorem u16or {a b : Nat} (ha : a < 65536) (hb : b < 65536) : bitsOf .or .u16 (a : Int) (b : Int) = ((a ||| b : Nat) : Int) := by
  have h : a ||| b < 2 ^ 16 := Nat.or_lt_two_pow (by omega) (by omega)
  have e := bv_or (n := 16) (a := a) (b := b) ha hb
  show IntKind.u16.wrap ((BitVec.ofInt 16 (a : Int) ||| BitVec.ofInt 16 (b : Int)).toNat : Int) = _
  rw [e, u16m]; omega
theorem u32or {a b : Nat} (ha : a < 4294967296) (hb : b < 4294967296) : bitsOf .or .u32 (a : Int) (b : Int) = ((a ||| b : Nat) : Int) := by
  have h : a ||| b < 2 ^ 32 := Nat.or_lt_two_pow (by omega) (by omega)
  have e := bv_or (n := 32) (a := a) (b := b) ha hb
  show IntKind.u32.wrap ((BitVec.ofInt 32 (a : Int) ||| BitVec.ofInt 32 (b : Int)).toNat : Int) = _
  rw [e, u32m]; omega
theorem i64and {a b : Nat} (ha : a < 65536) (hb : b < 65536) : bitsOf .and .i64 (a : Int) (b : Int) = ((a &&& b : Nat) : Int) := by
  have h : a &&& b < 65536 := Nat.lt_of_le_of_lt Nat.and_le_left ha
  have e := bv_and (n := 64) (a := a) (b := b) (by omega) (by omega)
  show IntKind.i64.wrap ((BitVec.ofInt 64 (a : Int) &&& BitVec.ofInt 64 (b : Int)).toNat : Int) = _
  rw [e, i64w (by omega)]
theorem i64or {a b : Nat} (ha : a < 65536) (hb : b < 65536) : bitsOf .or .i64 (a : Int) (b : Int) = ((a ||| b : Nat) : Int) := by
  have h : a ||| b < 2 ^ 16 := Nat.or_lt_two_pow (by omega) (by omega)
  have e := bv_or (n := 64) (a := a) (b := b) (by omega) (by omega)
  show IntKind.i64.wrap ((BitVec.ofInt 64 (a : Int) ||| BitVec.ofInt 64 (b : Int)).toNat : Int) = _
  rw [e, i64w (by omega)]
theorem i64xor {a b : Nat} (ha : a < 65536) (hb : b < 65536) : bitsOf .xor .i64 (a : Int) (b : Int) = ((a ^^^ b : Nat) : Int) := by
  have h : a ^^^ b < 2 ^ 16 := Nat.xor_lt_two_pow (by omega) (by omega)
  have e := bv_xor (n := 64) (a := a) (b := b) (by omega) (by omega)
  show IntKind.i64.wrap ((BitVec.ofInt 64 (a : Int) ^^^ BitVec.ofInt 64 (b : Int)).toNat : Int) = _
  rw [e, i64w (by omega)]
theorem or_hi (a b : Nat) (hb : b < 256) : a * 256 ||| b = a * 256 + b := by
  have := Nat.shiftLeft_add_eq_or_of_lt (i := 8) (b := b) hb a
  rw [Nat.shiftLeft_eq] at this
  exact this.symm
theorem or_hi16 (a b : Nat) (hb : b < 65536) : a * 65536 ||| b = a * 65536 + b := by
  have := Nat.shiftLeft_add_eq_or_of_lt (i := 16) (b := b) hb a
  rw [Nat.shiftLeft_eq] at this
  exact this.symm
theorem or_hi24 (a b : Nat) (hb : b < 16777216) : a * 16777216 ||| b = a * 16777216 + b := by
  have := Nat.shiftLeft_add_eq_or_of_lt (i := 24) (b := b) hb a
  rw [Nat.shiftLeft_eq] at this
  exact this.symm
theorem two_eq {a b : Nat} (ha : a < 256) (hb : b < 256) :
    bitsOf .or .u16 (IntKind.u16.wrap (IntKind.u16.wrap (a : Int) * 2 ^ (min (8 : Int).toNat IntKind.u16.bits))) (IntKind.u16.wrap (b : Int)) = ((a * 256 + b : Nat) : Int) := by
  have e1 : IntKind.u16.wrap (IntKind.u16.wrap (a : Int) * 2 ^ (min (8 : Int).toNat IntKind.u16.bits)) = ((a * 256 : Nat) : Int) := by
    have : (2 : Int) ^ (min (8 : Int).toNat IntKind.u16.bits) = 256 := by decide
    rw [this, u16m, u16m]; omega
  have e2 : IntKind.u16.wrap (b : Int) = ((b : Nat) : Int) := by rw [u16m]; omega
  rw [e1, e2, u16or (by omega) (by omega), or_hi _ _ hb]
theorem four_eq {a b c d : Nat} (ha : a < 256) (hb : b < 256) (hc : c < 256) (hd : d < 256) :
    bitsOf .or .u32 (bitsOf .or .u32 (bitsOf .or .u32 (IntKind.u32.wrap (IntKind.u32.wrap (a : Int) * 2 ^ (min (24 : Int).toNat IntKind.u32.bits))) (IntKind.u32.wrap (IntKind.u32.wrap (b : Int) * 2 ^ (min (16 : Int).toNat IntKind.u32.bits))))
      (IntKind.u32.wrap (IntKind.u32.wrap (c : Int) * 2 ^ (min (8 : Int).toNat IntKind.u32.bits)))) (IntKind.u32.wrap (d : Int)) = ((((a * 256 + b) * 256 + c) * 256 + d : Nat) : Int) := by
  have e1 : IntKind.u32.wrap (IntKind.u32.wrap (a : Int) * 2 ^ (min (24 : Int).toNat IntKind.u32.bits)) = ((a * 16777216 : Nat) : Int) := by
    have : (2 : Int) ^ (min (24 : Int).toNat IntKind.u32.bits) = 16777216 := by decide
    rw [this, u32m, u32m]; omega
  have e2 : IntKind.u32.wrap (IntKind.u32.wrap (b : Int) * 2 ^ (min (16 : Int).toNat IntKind.u32.bits)) = ((b * 65536 : Nat) : Int) := by
    have : (2 : Int) ^ (min (16 : Int).toNat IntKind.u32.bits) = 65536 := by decide
    rw [this, u32m, u32m]; omega
  have e3 : IntKind.u32.wrap (IntKind.u32.wrap (c : Int) * 2 ^ (min (8 : Int).toNat IntKind.u32.bits)) = ((c * 256 : Nat) : Int) := by
    have : (2 : Int) ^ (min (8 : Int).toNat IntKind.u32.bits) = 256 := by decide
    rw [this, u32m, u32m]; omega
  have e4 : IntKind.u32.wrap (d : Int) = ((d : Nat) : Int) := by rw [u32m]; omega
  have s1 : bitsOf .or .u32 ((a * 16777216 : Nat) : Int) ((b * 65536 : Nat) : Int) = (((a * 256 + b) * 65536 : Nat) : Int) := by
    clear e1 e2 e3 e4
    rw [u32or (by omega) (by omega), or_hi24 _ _ (by omega)]; omega
  have s2 : bitsOf .or .u32 (((a * 256 + b) * 65536 : Nat) : Int) ((c * 256 : Nat) : Int) = ((((a * 256 + b) * 256 + c) * 256 : Nat) : Int) := by
    clear e1 e2 e3 e4 s1
    rw [u32or (by omega) (by omega), or_hi16 _ _ (by omega)]; omega
  have s3 : bitsOf .or .u32 ((((a * 256 + b) * 256 + c) * 256 : Nat) : Int) (d : Int) = ((((a * 256 + b) * 256 + c) * 256 + d : Nat) : Int) := by
    clear e1 e2 e3 e4 s1 s2
    rw [u32or (by omega) (by omega), or_hi _ _ hd]
  rw [e1, e2, e3, e4, s1, s2, s3]
theorem i64c {a : Int} {c : Nat} (h : a = c) (hc : c ≤ 9223372036854775807) : IntKind.i64.wrap a = (c : Int) := by subst h; exact i64w (by omega)
theorem u16c {a : Int} {c : Nat} (h : a = c) (hc : c ≤ 65535) : IntKind.u16.wrap a = (c : Int) := by subst h; exact u16w (by omega)
theorem u8c {a : Int} {c : Nat} (h : a = c) (hc : c ≤ 255) : IntKind.u8.wrap a = (c : Int) := by subst h; exact u8w (by omega)
theorem u32c {a : Int} {c : Nat} (h : a = c) (hc : c ≤ 4294967295) : IntKind.u32.wrap a = (c : Int) := by subst h; exact u32w (by omega)
theorem mask0 : ∀ c, c < 256 → (c &&& 192 = 0 ↔ c < 64) := by decide +kernel
theorem mask3 : ∀ c, c < 256 → (c &&& 192 = 192 ↔ 192 ≤ c) := by decide +kernel
theorem mask3x : ∀ c, c < 256 → 192 ≤ c → c ^^^ 192 = c - 192 := by decide +kernel
end Go.Proofs.YtgpfjlfkaoffeaaGreatDoor

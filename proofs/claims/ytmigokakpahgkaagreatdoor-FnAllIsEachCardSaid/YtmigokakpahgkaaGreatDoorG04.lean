/- The proof layer of this claim, sixth part: statements whose order is open. Whatever is pure may be taken first; the rest is told order by order. The proof layer of this claim, seventh part: short words, bytes in memory, arithmetic. The plain model: what bytes read as, and what a machine that reads them does. The proof layer of this claim, eighth part: parts of bytes, names in memory, stores at any place. -/
import Derived.Test.YtmigokakpahgkaaGreatDoorG03
import Derived.OrdersHeld
import Derived.IntWalk
set_option linter.all false
namespace Go.Proofs.YtmigokakpahgkaaGreatDoor
open Go
section
variable {P : Program} {ops : Array Oper} {Q : Exit → Act → World → Prop} {F : World → Prop} {pend : List Nat}
def lateAt (ops : Array Oper) (pend : List Nat) (i : Nat) : Bool :=
  match ops[i]? with
  | some o => pend.all fun p => o.after.any fun e => Region.binds .any e && e.on == p
  | none => false
def AnyE (P : Program) (ops : Array Oper) (Q : Exit → Act → World → Prop) (F : World → Prop) (pend : List Nat) : Nat → Array Bool → Act → World → Prop
  | 0, listed, a, w => Region.ready .any ops listed = [] ∧ Q .normal a w
  | fuel + 1, listed, a, w =>
    (Region.ready .any ops listed = [] → Q .normal a w) ∧
    ∀ i ∈ Region.ready .any ops listed, wpOp P ops Q i (fun a' w' => (w' = w ∨ (lateAt ops pend i = false → F w')) ∧ AnyE P ops Q F pend fuel (listed.setIfInBounds i true) a' w') a w
theorem any_of_anyE : ∀ (fuel : Nat) (listed : Array Bool) (a : Act) (w : World), AnyE P ops Q F pend fuel listed a w → wpAny P .any ops Q fuel listed a w
  | 0, _, _, _, h => h
  | fuel + 1, _, _, _, h => ⟨h.1, fun i hi => wpOp_mono (fun a' w' h' => any_of_anyE fuel _ a' w' h'.2) (h.2 i hi)⟩
def InF (pend : List Nat) (F : World → Prop) (i : Nat) (w : World) : Prop := i ∈ pend → F w
theorem anyE_first {i : Nat} {oi : Oper} {v : Value} (hi : ops[i]? = some oi) (hsel : ∀ (j : Nat) (o : Oper) cs b, ops[j]? = some o → o.op ≠ .select cs b)
    (hQ : ∀ c a w, Q (.panic c) (a.put oi.dst v) w → Q (.panic c) a w) :
    ∀ (fuel : Nat) (listed : Array Bool) (a : Act) (w : World),
      (∀ j oj, ops[j]? = some oj → j ≠ i → listed.getD j true = false → (∀ e ∈ oj.after, Region.binds .any e = true → e.on ≠ i) → oi.apart ops oj = true) →
      i ∈ Region.ready .any ops listed → YieldsIf P ops (InF pend F i) oi v a → InF pend F i w →
      AnyE P ops Q F pend fuel (listed.setIfInBounds i true) (a.put oi.dst v) w → AnyE P ops Q F pend (fuel + 1) listed a w := by
  intro fuel
  induction fuel with
  | zero =>
    intro listed a w _ hr hy hS H
    refine ⟨fun h => (by rw [h] at hr; cases hr), fun j hj => ?_⟩
    by_cases hji : j = i
    · subst hji; exact hy.wpOp hi hS ⟨.inl rfl, H⟩
    · have := ready_mono hj hji
      rw [H.1] at this
      cases this
  | succ fuel ih =>
    intro listed a w hfree hr hy hS H
    refine ⟨fun h => (by rw [h] at hr; cases hr), fun j hj => ?_⟩
    by_cases hji : j = i
    · subst hji; exact hy.wpOp hi hS ⟨.inl rfl, H⟩
    · have h1 := H.2 j (ready_mono hj hji)
      obtain ⟨hjun, oj, hoj, hall⟩ := mem_ready.1 hj
      have hiun := (mem_ready.1 hr).1
      have hnot : ∀ e ∈ oj.after, Region.binds .any e = true → e.on ≠ i := fun e he hb heq => by
        have h1 := hall e he hb
        rw [heq] at h1
        rcases Nat.lt_or_ge i listed.size with h' | h'
        · simp [h'] at hiun h1; rw [hiun] at h1; cases h1
        · simp [Array.getElem?_eq_none h'] at h1
      have h2 := wpOp_putIf hoj (hfree j oj hoj hji hjun hnot) (fun cs b => hsel i oi cs b hi) (fun cs b => hsel j oj cs b hoj) hQ hy h1
      have hfree' : ∀ k ok, ops[k]? = some ok → k ≠ i → (listed.setIfInBounds j true).getD k true = false →
          (∀ e ∈ ok.after, Region.binds .any e = true → e.on ≠ i) → oi.apart ops ok = true := fun k ok hk hki hun hno => by
        refine hfree k ok hk hki ?_ hno
        by_cases hjk : j = k
        · subst hjk; exact hjun
        · rw [getD_set_ne true hjk] at hun; exact hun
      refine wpOp_mono ?_ h2
      rintro a' w' ⟨hy', hF', H'⟩
      rw [Array.setIfInBounds_comm _ _ (Ne.symm hji)] at H'
      have hS' : InF pend F i w' := fun hp => by
        rcases hF' with rfl | hF'
        · exact hS hp
        · refine hF' ?_
          simp only [lateAt, hoj]
          rw [List.all_eq_false]
          refine ⟨i, hp, ?_⟩
          rw [Array.any_eq_true']
          rintro ⟨e, he, hb⟩
          simp only [Bool.and_eq_true, beq_iff_eq] at hb
          exact hnot e he hb.1 hb.2
      exact ⟨hF', ih (listed.setIfInBounds j true) a' w' hfree' (ready_mono hr (Ne.symm hji)) hy' hS' H'⟩
end
def SW (w w' : World) : Prop := w'.heap = w.heap ∧ w'.os = w.os ∧ w'.tape = w.tape ∧ w'.output = w.output
theorem SW.refl (w : World) : SW w w := ⟨rfl, rfl, rfl, rfl⟩
theorem SW.st {w0 : Base} {w w' : World} {L : List (Nat × Obj)} (h : SW w w') (hs : St w0 w L) : St w0 w' L := hs.same h.1 h.2.1 h.2.2.1 h.2.2.2
theorem SW.st0 {V : Vw} {w w' : World} (h : SW w w') (hV : V.In w) : St ⟨w, V, V⟩ w' [] := h.st (St.start hV)
def nQ (n : Nat) (K : Env → World → Prop) : Exit → Act → World → Prop
  | .normal, a, w => ∃ ρ, Fr n a ρ ∧ K ρ w
  | _, _, _ => False
@[irreducible] def AW (P : Program) (n : Nat) (ops : Array Oper) (F : World → Prop) (pend : List Nat) (K : Env → World → Prop) (fuel : Nat) (listed : Array Bool) (ρ : Env) (w : World) : Prop :=
  ∀ a, Fr n a ρ → AnyE P ops (nQ n K) F pend fuel listed a w
section
variable {P : Program} {n : Nat} {ops : Array Oper} {F : World → Prop} {pend : List Nat} {K : Env → World → Prop} {ρ : Env} {w : World} {fuel : Nat} {listed : Array Bool}
theorem e_draw {id : Nat} {l : List Oper} {Q : QE} (F : World → Prop) (pend : List Nat) (hm : P.follows .mixedOrders = true)
    (h : ∀ w1, SW w w1 → AW P n l.toArray F pend (fun ρ' w' => Q .normal ρ' w') l.length (Array.replicate l.length false) ρ w1) : EW P n (.region id l.toArray true) Q ρ w := by
  unfold EW
  intro a ha
  have h1 := h w.drew ⟨rfl, rfl, rfl, rfl⟩
  unfold AW at h1
  have h2 := h1 a ha
  have e1 : l.toArray.size = l.length := by simp
  have h3 : (Code.region id l.toArray true).wp P (nQ n fun ρ' w' => Q .normal ρ' w') a w := wp_region_any hm (any_of_anyE _ _ _ _ (by rw [e1]; exact h2))
  refine wp_mono h3 ?_
  rintro e a' w' q
  cases e with
  | normal => exact q
  | exit i => exact q.elim
  | goto l => exact q.elim
  | ret => exact q.elim
  | panic c => exact q.elim
  | outgrown => exact q.elim
theorem bV {id : Nat} {l : List Oper} {Q : QE} {w0 : Base} {L : List (Nat × Obj)} (hs : St w0 w L) (pend : List Nat) (hm : P.follows .mixedOrders = true)
    (h : ∀ w1, St w0 w1 L → AW P n l.toArray (fun w2 => St w0 w2 L) pend (fun ρ' w' => Q .normal ρ' w') l.length (Array.replicate l.length false) ρ w1) : EW P n (.region id l.toArray true) Q ρ w :=
  e_draw _ pend hm fun w1 hw1 => h w1 (hw1.st hs)
theorem bS (hr : Region.ready .any ops listed = []) (h : K ρ w) : AW P n ops F pend K fuel listed ρ w := by
  unfold AW
  intro a ha
  cases fuel with
  | zero => exact ⟨hr, ρ, ha, h⟩
  | succ k => exact ⟨fun _ => ⟨ρ, ha, h⟩, by rw [hr]; simp⟩
def mayTake (ops : Array Oper) (listed : Array Bool) (i : Nat) : Bool := Region.noSelect ops && Region.free .any ops listed i && (Region.ready .any ops listed).contains i
theorem a_take_gen (i : Nat) {oi : Oper} {v : Value} (hi : ops[i]? = some oi) (hm : mayTake ops listed i = true) (hF : i ∈ pend → F w) (hy : ∀ a, Fr n a ρ → YieldsIf P ops (InF pend F i) oi v a)
    (hput : ∀ a, Fr n a ρ → ∃ ρ', Fr n (a.put oi.dst v) ρ' ∧ AW P n ops F pend K fuel (listed.setIfInBounds i true) ρ' w) : AW P n ops F pend K (fuel + 1) listed ρ w := by
  simp only [mayTake, Bool.and_eq_true] at hm
  unfold AW
  intro a ha
  obtain ⟨ρ', hf, hk⟩ := hput a ha
  unfold AW at hk
  exact anyE_first hi (Region.noSelect_spec hm.1.1) (fun _ _ _ h => h) fuel listed a w (Region.free_spec hi hm.1.2) (by simpa using hm.2) (hy a ha) hF (hk _ hf)
theorem a_take {d : Tmp} {op : Op} {ty : TypeId} {pos : String} {af : Array Edge} {v : Value} {l : List Oper} (i : Nat) (hi : lget l i = some ⟨some d, op, ty, pos, af, none⟩) (hm : mayTake l.toArray listed i = true)
    (hpw : ∀ w', (i ∈ pend → F w') → PO P op ρ w' v) (hF : i ∈ pend → F w) (hd : Nat.blt d n = true)
    (h : AW P n l.toArray F pend K fuel (listed.setIfInBounds i true) (upd ρ d v) w) : AW P n l.toArray F pend K (fuel + 1) listed ρ w := by
  rw [lget_eq] at hi
  refine a_take_gen i (by simpa using hi) hm hF (fun a ha => .inl ⟨rfl, fun w' hw' => hpw w' hw' _ _ rfl ha.ag⟩) (fun a ha => ⟨_, ha.put hd, h⟩)
theorem aK {d : Tmp} {op : Op} {ty : TypeId} {pos : String} {af : Array Edge} {v : Value} {l : List Oper} (i : Nat) (hi : lget l i = some ⟨some d, op, ty, pos, af, none⟩) (hm : mayTake l.toArray listed i = true)
    (hp : ∀ w', PO P op ρ w' v) (hni : pend.contains i = false) (hd : Nat.blt d n = true)
    (h : AW P n l.toArray F pend K fuel (listed.setIfInBounds i true) (upd ρ d v) w) : AW P n l.toArray F pend K (fuel + 1) listed ρ w :=
  a_take i hi hm (fun w' _ => hp w') (fun hm => by simp at hni; exact (hni hm).elim) hd h
theorem bF {d : Tmp} {op : Op} {ty : TypeId} {pos : String} {af : Array Edge} {v : Value} {l : List Oper} (i : Nat) (hi : lget l i = some ⟨some d, op, ty, pos, af, none⟩) (hm : mayTake l.toArray listed i = true)
    (hF : F w) (hin : pend.contains i = true) (hp : ∀ w', F w' → PO P op ρ w' v) (hd : Nat.blt d n = true)
    (h : AW P n l.toArray F pend K fuel (listed.setIfInBounds i true) (upd ρ d v) w) : AW P n l.toArray F pend K (fuel + 1) listed ρ w :=
  a_take i hi hm (fun w' hw' => hp w' (hw' (by simpa using hin))) (fun _ => hF) hd h
theorem cK {d j t : Tmp} {op : Op} {ty : TypeId} {pos : String} {af : Array Edge} {v : Value} {l : List Oper} {b want : Bool} (i : Nat) (hi : lget l i = some ⟨some d, op, ty, pos, af, some (j, want)⟩) (hm : mayTake l.toArray listed i = true)
    (hj : guardOf l.toArray j = some t) (ht : ρ t = some (.bool b)) (hb : b = want) (hF : i ∈ pend → F w) (hp : ∀ w', (i ∈ pend → F w') → PO P op ρ w' v) (hd : Nat.blt d n = true)
    (h : AW P n l.toArray F pend K fuel (listed.setIfInBounds i true) (upd ρ d v) w) : AW P n l.toArray F pend K (fuel + 1) listed ρ w := by
  rw [lget_eq] at hi
  refine a_take_gen i (by simpa using hi) hm hF (fun a ha => .inl ⟨?_, fun w' hw' => hp w' hw' _ _ rfl ha.ag⟩) (fun a ha => ⟨_, ha.put hd, h⟩)
  rw [wanted_of (b := b) (o := ⟨some d, op, ty, pos, af, some (j, want)⟩) ha rfl hj ht]; simp [hb]
theorem a_gskip {d j t : Tmp} {op : Op} {ty : TypeId} {pos : String} {af : Array Edge} {l : List Oper} {b want : Bool} (i : Nat) (hi : lget l i = some ⟨some d, op, ty, pos, af, some (j, want)⟩) (hm : mayTake l.toArray listed i = true)
    (hj : guardOf l.toArray j = some t) (ht : ρ t = some (.bool b)) (hb : b = !want) (hF : i ∈ pend → F w) (hd : Nat.blt d n = true)
    (h : AW P n l.toArray F pend K fuel (listed.setIfInBounds i true) (upd ρ d undef) w) : AW P n l.toArray F pend K (fuel + 1) listed ρ w := by
  rw [lget_eq] at hi
  refine a_take_gen i (by simpa using hi) hm hF (fun a ha => .inr ⟨?_, rfl⟩) (fun a ha => ⟨_, ha.put hd, h⟩)
  rw [wanted_of (b := b) (o := ⟨some d, op, ty, pos, af, some (j, want)⟩) ha rfl hj ht]; subst hb; cases want <;> simp
theorem a_gskip' {d j t : Tmp} {op : Op} {ty : TypeId} {pos : String} {af : Array Edge} {l : List Oper} {want : Bool} (i : Nat) (hi : lget l i = some ⟨some d, op, ty, pos, af, some (j, want)⟩) (hm : mayTake l.toArray listed i = true)
    (hj : guardOf l.toArray j = some t) (ht : ρ t = some undef) (hF : i ∈ pend → F w) (hd : Nat.blt d n = true)
    (h : AW P n l.toArray F pend K fuel (listed.setIfInBounds i true) (upd ρ d undef) w) : AW P n l.toArray F pend K (fuel + 1) listed ρ w := by
  rw [lget_eq] at hi
  refine a_take_gen i (by simpa using hi) hm hF (fun a ha => .inr ⟨?_, rfl⟩) (fun a ha => ⟨_, ha.put hd, h⟩)
  rw [wanted_undef (o := ⟨some d, op, ty, pos, af, some (j, want)⟩) ha rfl hj ht]
theorem wpOp_of_ow {i : Nat} {o : Oper} {Q : Exit → Act → World → Prop} {K' : Act → World → Prop} {a : Act} {K : Env → World → Prop} (hi : ops[i]? = some o) (hg : o.guard = none) (ha : Fr n a ρ) (h : OW P n o K ρ w)
    (hk : ∀ a' w', (∃ ρ', Fr n a' ρ' ∧ K ρ' w') → K' a' w') : wpOp P ops Q i K' a w := by
  unfold OW at h
  unfold wpOp
  simp only [hi]
  rw [if_pos (by simp [Region.wanted, hg])]
  exact .inl (h a Q K' ha hk)
theorem bP {d : Option Tmp} {op : Op} {ty : TypeId} {pos : String} {af : Array Edge} {l : List Oper} (i : Nat) (hr : Region.ready .any l.toArray listed = [i]) (hi : lget l i = some ⟨d, op, ty, pos, af, none⟩)
    (h : OW P n ⟨d, op, ty, pos, af, none⟩ (fun ρ' w' => (lateAt l.toArray pend i = false → F w') ∧ AW P n l.toArray F pend K fuel (listed.setIfInBounds i true) ρ' w') ρ w) :
    AW P n l.toArray F pend K (fuel + 1) listed ρ w := by
  unfold AW
  rw [lget_eq] at hi
  intro a ha
  refine ⟨fun h0 => absurd (hr.symm.trans h0) (by simp), fun j hj => ?_⟩
  rw [hr] at hj
  simp at hj
  subst hj
  refine wpOp_of_ow (by simpa using hi) rfl ha h ?_
  rintro a' w' ⟨ρ', hf, hl, hk⟩
  unfold AW at hk
  exact ⟨.inr hl, hk _ hf⟩
theorem a_two {d d' : Option Tmp} {op op' : Op} {ty ty' : TypeId} {pos pos' : String} {af af' : Array Edge} {l : List Oper} (i i' : Nat) (hr : Region.ready .any l.toArray listed = [i, i'])
    (hi : lget l i = some ⟨d, op, ty, pos, af, none⟩) (hi' : lget l i' = some ⟨d', op', ty', pos', af', none⟩)
    (h : OW P n ⟨d, op, ty, pos, af, none⟩ (fun ρ' w' => (lateAt l.toArray pend i = false → F w') ∧ AW P n l.toArray F pend K fuel (listed.setIfInBounds i true) ρ' w') ρ w)
    (h' : OW P n ⟨d', op', ty', pos', af', none⟩ (fun ρ' w' => (lateAt l.toArray pend i' = false → F w') ∧ AW P n l.toArray F pend K fuel (listed.setIfInBounds i' true) ρ' w') ρ w) :
    AW P n l.toArray F pend K (fuel + 1) listed ρ w := by
  unfold AW
  rw [lget_eq] at hi hi'
  intro a ha
  refine ⟨fun h0 => absurd (hr.symm.trans h0) (by simp), fun j hj => ?_⟩
  rw [hr] at hj
  simp at hj
  rcases hj with rfl | rfl
  · refine wpOp_of_ow (by simpa using hi) rfl ha h ?_
    rintro a' w' ⟨ρ', hf, hl, hk⟩
    unfold AW at hk
    exact ⟨.inr hl, hk _ hf⟩
  · refine wpOp_of_ow (by simpa using hi') rfl ha h' ?_
    rintro a' w' ⟨ρ', hf, hl, hk⟩
    unfold AW at hk
    exact ⟨.inr hl, hk _ hf⟩
theorem dI {d : Tmp} {op : Op} {ty : TypeId} {pos : String} {af : Array Edge} {v : Value} {l : List Oper} (i : Nat) (hi : lget l i = some ⟨some d, op, ty, pos, af, none⟩)
    (hp : ∀ w', PO P op ρ w' v) (hni : pend.contains i = false) (hd : Nat.blt d n = true)
    (h : AW P n l.toArray F pend K fuel (listed.setIfInBounds i true) (upd ρ d v) w) (hm : mayTake l.toArray listed i = true := by decide +kernel) : AW P n l.toArray F pend K (fuel + 1) listed ρ w := aK i hi hm hp hni hd h
theorem dJ {d : Tmp} {op : Op} {ty : TypeId} {pos : String} {af : Array Edge} {v : Value} {l : List Oper} (i : Nat) (hi : lget l i = some ⟨some d, op, ty, pos, af, none⟩)
    (hF : F w) (hin : pend.contains i = true) (hp : ∀ w', F w' → PO P op ρ w' v) (hd : Nat.blt d n = true)
    (h : AW P n l.toArray F pend K fuel (listed.setIfInBounds i true) (upd ρ d v) w) (hm : mayTake l.toArray listed i = true := by decide +kernel) : AW P n l.toArray F pend K (fuel + 1) listed ρ w := bF i hi hm hF hin hp hd h
theorem dK {d j t : Tmp} {op : Op} {ty : TypeId} {pos : String} {af : Array Edge} {v : Value} {l : List Oper} {b want : Bool} (i : Nat) (hi : lget l i = some ⟨some d, op, ty, pos, af, some (j, want)⟩)
    (hj : guardOf l.toArray j = some t) (ht : ρ t = some (.bool b)) (hb : b = want) (hF : i ∈ pend → F w) (hp : ∀ w', (i ∈ pend → F w') → PO P op ρ w' v) (hd : Nat.blt d n = true)
    (h : AW P n l.toArray F pend K fuel (listed.setIfInBounds i true) (upd ρ d v) w) (hm : mayTake l.toArray listed i = true := by decide +kernel) : AW P n l.toArray F pend K (fuel + 1) listed ρ w := cK i hi hm hj ht hb hF hp hd h
theorem dL {d : Option Tmp} {op : Op} {ty : TypeId} {pos : String} {af : Array Edge} {l : List Oper} (i : Nat) (hi : lget l i = some ⟨d, op, ty, pos, af, none⟩)
    (h : OW P n ⟨d, op, ty, pos, af, none⟩ (fun ρ' w' => (lateAt l.toArray pend i = false → F w') ∧ AW P n l.toArray F pend K fuel (listed.setIfInBounds i true) ρ' w') ρ w) (hr : Region.ready .any l.toArray listed = [i] := by decide +kernel) :
    AW P n l.toArray F pend K (fuel + 1) listed ρ w := bP i hr hi h
end
end Go.Proofs.YtmigokakpahgkaaGreatDoor
namespace Go.Proofs.YtmigokakpahgkaaGreatDoor
open Go
abbrev rep (n : Nat) (v : Value) : List Value := List.replicate n v
section
variable {P : Program} {n : Nat} {ρ : Env} {w0 : Base} {w : World} {L : List (Nat × Obj)} {K : Env → World → Prop} {ops : Array Oper} {rest : List Oper}
theorem lp {d : Tmp} {op : Op} {ty : TypeId} {pos : String} {af : Array Edge} {v : Value} (h : PO P op ρ w v) (hd : Nat.blt d n = true) (hk : LW P n ops rest K (upd ρ d v) w) :
    LW P n ops (⟨some d, op, ty, pos, af, none⟩ :: rest) K ρ w := aJ (o_pure h hd hk)
theorem dM {d : Tmp} {x : Operand} {ty : TypeId} {pos : String} {af : Array Edge} {v : Value} (h : ev ρ x = some v) (hd : Nat.blt d n = true) (hk : LW P n ops rest K (upd ρ d v) w) :
    LW P n ops (⟨some d, .move x, ty, pos, af, none⟩ :: rest) K ρ w := lp (aC h) hd hk
theorem dN {d : Tmp} {x : Operand} {ty : TypeId} {pos : String} {af : Array Edge} {v : Value} (h : ev ρ x = some v) (hd : Nat.blt d n = true) (hk : LW P n ops rest K (upd ρ d v) w) :
    LW P n ops (⟨some d, .assign x, ty, pos, af, none⟩ :: rest) K ρ w := lp (aD h) hd hk
theorem dO {d : Tmp} {x : Operand} {i : Nat} {l : List Value} {ty : TypeId} {pos : String} {af : Array Edge} {v : Value} (h : ev ρ x = some (.tuple l.toArray)) (hi : lget l i = some v) (hd : Nat.blt d n = true)
    (hk : LW P n ops rest K (upd ρ d v) w) : LW P n ops (⟨some d, .extract x i, ty, pos, af, none⟩ :: rest) K ρ w := lp (aI h hi) hd hk
theorem lp0 {op : Op} {ty : TypeId} {pos : String} {af : Array Edge} {v : Value} (h : PO P op ρ w v) (hk : LW P n ops rest K ρ w) :
    LW P n ops (⟨none, op, ty, pos, af, none⟩ :: rest) K ρ w := aJ (o_pure0 h hk)
theorem lg {d j t : Tmp} {op : Op} {ty : TypeId} {pos : String} {af : Array Edge} {v : Value} {b want : Bool} (hj : guardOf ops j = some t) (ht : ρ t = some (.bool b)) (hb : b = want) (h : PO P op ρ w v) (hd : Nat.blt d n = true)
    (hk : LW P n ops rest K (upd ρ d v) w) : LW P n ops (⟨some d, op, ty, pos, af, some (j, want)⟩ :: rest) K ρ w := cX hj ht hb (o_pure h hd hk)
end
theorem i64w {n : Int} (h : -9223372036854775808 ≤ n ∧ n ≤ 9223372036854775807) : IntKind.i64.wrap n = n := by
  rw [IntKind.wrap_i64]; omega
theorem u8w {n : Int} (h : 0 ≤ n ∧ n ≤ 255) : IntKind.u8.wrap n = n := by
  have : IntKind.u8.wrap n = n % 256 := by simp [IntKind.wrap, IntKind.signed, IntKind.bits]
  rw [this]; omega
theorem u16w {n : Int} (h : 0 ≤ n ∧ n ≤ 65535) : IntKind.u16.wrap n = n := by
  have : IntKind.u16.wrap n = n % 65536 := by simp [IntKind.wrap, IntKind.signed, IntKind.bits]
  rw [this]; omega
theorem u32w {n : Int} (h : 0 ≤ n ∧ n ≤ 4294967295) : IntKind.u32.wrap n = n := by
  have : IntKind.u32.wrap n = n % 4294967296 := by simp [IntKind.wrap, IntKind.signed, IntKind.bits]
  rw [this]; omega
theorem u8m (n : Int) : IntKind.u8.wrap n = n % 256 := by simp [IntKind.wrap, IntKind.signed, IntKind.bits]
theorem u16m (n : Int) : IntKind.u16.wrap n = n % 65536 := by simp [IntKind.wrap, IntKind.signed, IntKind.bits]
theorem u32m (n : Int) : IntKind.u32.wrap n = n % 4294967296 := by simp [IntKind.wrap, IntKind.signed, IntKind.bits]
theorem SW.cell {w w' : World} (h : SW w w') {a : Addr} {v : Value} (hc : w.cell? a = some v) : w'.cell? a = some v := by
  unfold World.cell? at *; rw [h.1]; exact hc
theorem SW.heap {w w' : World} (h : SW w w') {b : Nat} {o : Obj} (hc : w.heap[b]? = some o) : w'.heap[b]? = some o := by rw [h.1]; exact hc
theorem SW.trans {w w' w2 : World} (h : SW w w') (k : SW w' w2) : SW w w2 := ⟨k.1.trans h.1, k.2.1.trans h.2.1, k.2.2.1.trans h.2.2.1, k.2.2.2.trans h.2.2.2⟩
theorem SW.symm {w w' : World} (h : SW w w') : SW w' w := ⟨h.1.symm, h.2.1.symm, h.2.2.1.symm, h.2.2.2.symm⟩
theorem cell_of_heap {w w' : World} {a : Addr} (h : w'.heap[a.block]? = w.heap[a.block]?) : w'.cell? a = w.cell? a := by simp [World.cell?, h]
def Vw.cell (V : Vw) (b q : Nat) : Option Value :=
  match V b with
  | some (.cells cs _ _) => cs[q]?
  | _ => none
theorem Vw.cell_in {V : Vw} {w : World} (hV : V.In w) {b q : Nat} {u : Value} (h : V.cell b q = some u) : w.cell? ⟨b, q, none⟩ = some u := by
  unfold Vw.cell at h
  split at h
  · rename_i cs E fz hb
    simp [World.cell?, hV _ _ hb, h]
  · cases h
theorem Vw.cell_le {V V' : Vw} (hV : V.le V') {b q : Nat} {u : Value} (h : V.cell b q = some u) : V'.cell b q = some u := by
  unfold Vw.cell at *
  split at h
  · rename_i cs E fz hb
    simp [hV _ _ hb, h]
  · cases h
theorem Vw.cell_of {V : Vw} {b q : Nat} {u : Value} {l : List Value} {E : TypeId} {fz : Nat × Nat} (h : V b = some (.cells l.toArray E fz)) (hu : l[q]? = some u) : V.cell b q = some u := by
  simp [Vw.cell, h, hu]
def SlV (V : Vw) (size : Nat) (v : Value) (n : Nat) (xs : List Value) : Prop :=
  xs.length = n * size ∧ ((v = .slice none 0 0 ∧ n = 0) ∨ ∃ b p cap, v = .slice (some ⟨b, p, none⟩) n cap ∧ n ≤ cap ∧ ∀ j u, xs[j]? = some u → V.cell b (p + j) = some u)
theorem SlV.mono {V V' : Vw} {size n : Nat} {v : Value} {xs : List Value} (hV : V.le V') (h : SlV V size v n xs) : SlV V' size v n xs := by
  refine ⟨h.1, h.2.imp id ?_⟩
  rintro ⟨b, p, cap, h1, h2, h3⟩
  exact ⟨b, p, cap, h1, h2, fun j u hu => Vw.cell_le hV (h3 j u hu)⟩
theorem SlV.nil (V : Vw) (size : Nat) : SlV V size (.slice none 0 0) 0 [] := ⟨by simp, .inl ⟨rfl, rfl⟩⟩
theorem SlV.cells {V : Vw} {size n : Nat} {xs sp : List Value} {b cap : Nat} {E : TypeId} {fz : Nat × Nat} (h : V b = some (.cells (xs ++ sp).toArray E fz)) (hl : xs.length = n * size) (hc : n ≤ cap) : SlV V size (.slice (some ⟨b, 0, none⟩) n cap) n xs := by
  refine ⟨hl, .inr ⟨b, 0, cap, rfl, hc, fun j u hu => ?_⟩⟩
  rw [Nat.zero_add]
  refine Vw.cell_of h ?_
  have : j < xs.length := by
    rcases Nat.lt_or_ge j xs.length with h' | h'
    · exact h'
    · simp [List.getElem?_eq_none h'] at hu
  rw [List.getElem?_append_left this]
  exact hu
theorem SlV.form {V : Vw} {size n : Nat} {v : Value} {xs : List Value} (h : SlV V size v n xs) :
    ∃ a cap, v = .slice a n cap ∧ n ≤ cap ∧ (0 < n → ∃ b p, a = some ⟨b, p, none⟩ ∧ ∀ j u, xs[j]? = some u → V.cell b (p + j) = some u) := by
  rcases h.2 with ⟨h1, h2⟩ | ⟨b, p, cap, h1, h2, h3⟩
  · subst h2; exact ⟨none, 0, h1, Nat.le_refl _, fun h => absurd h (by omega)⟩
  · exact ⟨some ⟨b, p, none⟩, cap, h1, h2, fun _ => ⟨b, p, rfl, h3⟩⟩
theorem SlV.src {P : Program} {w : World} {V : Vw} {size n : Nat} {v : Value} {xs : List Value} (h : SlV V size v n xs) (hV : V.In w) : Src P w size v n xs := by
  rcases h.2 with ⟨h1, h2⟩ | ⟨b, p, cap, h1, h2, h3⟩
  · subst h1 h2
    have : xs = [] := List.eq_nil_of_length_eq_zero (by simpa using h.1)
    subst this
    exact src_nil
  · subst h1
    exact src_slice h.1 fun j u hu => Vw.cell_in hV (h3 j u hu)
theorem Sl.give {E : TypeId} {size n : Nat} {w0 w : World} {V0 V : Vw} {L : List (Nat × Obj)} {v : Value} {xs : List Value} (h : Sl E size ⟨w0, V0, V⟩ w L v n xs) : ∃ V', V.le V' ∧ SlV V' size v n xs ∧ St ⟨w0, V0, V'⟩ w L := by
  rcases h.2 with ⟨rfl, rfl, hs⟩ | ⟨g, cap, sp, rfl, hl, hnc, hcm, hg, hs⟩
  · exact ⟨V, V.le_refl, ⟨h.1, .inl ⟨rfl, rfl⟩⟩, hs⟩
  · obtain ⟨V', h1, h2, h3⟩ := hs.give hg
    exact ⟨V', h1, SlV.cells h2 h.1 hnc, h3⟩
theorem Sl.size {E : TypeId} {size n : Nat} {w0 : Base} {w : World} {L : List (Nat × Obj)} {v : Value} {xs : List Value} (h : Sl E size w0 w L v n xs) : ∃ a cap, v = .slice a n cap := by
  rcases h.2 with ⟨rfl, rfl, hs⟩ | ⟨g, cap, sp, rfl, hl, hnc, hcm, hg, hs⟩
  · exact ⟨_, _, rfl⟩
  · exact ⟨_, _, rfl⟩
def Rows {α : Type} (size : Nat) (R : α → List Value → Prop) : List α → List Value → Prop
  | [], xs => xs = []
  | a :: as, xs => ∃ c rest, xs = c ++ rest ∧ c.length = size ∧ R a c ∧ Rows size R as rest
theorem Rows.len {α : Type} {size : Nat} {R : α → List Value → Prop} : ∀ {as : List α} {xs : List Value}, Rows size R as xs → xs.length = as.length * size
  | [], xs, h => by simp [Rows] at h; simp [h]
  | a :: as, xs, h => by
    obtain ⟨c, rest, rfl, h1, _, h2⟩ := h
    have := h2.len
    simp [h1, this, Nat.add_mul]; omega
theorem Rows.mono {α : Type} {size : Nat} {R R' : α → List Value → Prop} (hR : ∀ a c, R a c → R' a c) : ∀ {as : List α} {xs : List Value}, Rows size R as xs → Rows size R' as xs
  | [], xs, h => h
  | a :: as, xs, h => by
    obtain ⟨c, rest, rfl, h1, h3, h2⟩ := h
    exact ⟨c, rest, rfl, h1, hR _ _ h3, h2.mono hR⟩
theorem Rows.app {α : Type} {size : Nat} {R : α → List Value → Prop} {bs : List α} {ys : List Value} (k : Rows size R bs ys) : ∀ {as : List α} {xs : List Value}, Rows size R as xs → Rows size R (as ++ bs) (xs ++ ys)
  | [], xs, h => by simp [Rows] at h; simpa [h] using k
  | a :: as, xs, h => by
    obtain ⟨c, rest, rfl, h1, h3, h2⟩ := h
    exact ⟨c, rest ++ ys, by simp, h1, h3, Rows.app k h2⟩
theorem Rows.one {α : Type} {size : Nat} {R : α → List Value → Prop} {a : α} {c : List Value} (h : R a c) (hc : c.length = size) : Rows size R [a] c := ⟨c, [], by simp, hc, h, rfl⟩
theorem Rows.snoc {α : Type} {size : Nat} {R : α → List Value → Prop} {as : List α} {xs : List Value} {a : α} {c : List Value} (h : Rows size R as xs) (ha : R a c) (hc : c.length = size) : Rows size R (as ++ [a]) (xs ++ c) := Rows.app (Rows.one ha hc) h
theorem Rows.at {α : Type} {size : Nat} {R : α → List Value → Prop} : ∀ {as : List α} {xs : List Value}, Rows size R as xs → ∀ {i : Nat} {a : α}, as[i]? = some a → ∃ c, R a c ∧ c.length = size ∧ (xs.drop (i * size)).take size = c
  | [], xs, h, i, a, hi => by simp at hi
  | b :: as, xs, h, i, a, hi => by
    obtain ⟨c, rest, rfl, h1, h3, h2⟩ := h
    cases i with
    | zero =>
      simp at hi; subst hi
      exact ⟨c, h3, h1, by simp [← h1]⟩
    | succ i =>
      simp at hi
      obtain ⟨c', k1, k2, k3⟩ := h2.at hi
      refine ⟨c', k1, k2, ?_⟩
      have : (i + 1) * size = c.length + i * size := by rw [h1, Nat.add_mul]; omega
      rw [this, ← List.drop_drop, List.drop_left]
      exact k3
def byteVal (u : UInt8) : Value := .int .u8 u.toNat
def byteAt (l : List UInt8) (i : Nat) : Nat := (l.getD i 0).toNat
theorem cU (l : List UInt8) (i : Nat) : byteAt l i < 256 := UInt8.toNat_lt _
def RB (V : Vw) (v : Value) (l : List UInt8) : Prop := SlV V 1 v l.length (l.map byteVal)
theorem RB.mono {V V' : Vw} {v : Value} {l : List UInt8} (hV : V.le V') (h : RB V v l) : RB V' v l := SlV.mono hV h
theorem RB.nil (V : Vw) : RB V (.slice none 0 0) [] := SlV.nil V 1
theorem RB.oneCell {V : Vw} {v : Value} {l : List UInt8} (h : RB V v l) : v.oneCell' = true := by
  obtain ⟨a, cap, rfl, _⟩ := SlV.form h; rfl
theorem RB.form {V : Vw} {v : Value} {l : List UInt8} (h : RB V v l) :
    ∃ a cap, v = .slice a l.length cap ∧ l.length ≤ cap ∧ (0 < l.length → ∃ b p, a = some ⟨b, p, none⟩ ∧ ∀ i, i < l.length → V.cell b (p + i) = some (.int .u8 (byteAt l i))) := by
  obtain ⟨a, cap, h1, h2, h3⟩ := SlV.form h
  refine ⟨a, cap, h1, h2, fun h0 => ?_⟩
  obtain ⟨b, p, h4, h5⟩ := h3 h0
  refine ⟨b, p, h4, fun i hi => h5 i _ ?_⟩
  simp [byteVal, byteAt, List.getD, List.getElem?_eq_getElem hi]
theorem ldb {V : Vw} {w : World} {l : List UInt8} {b p : Nat} (hV : V.In w) (hc : ∀ i, i < l.length → V.cell b (p + i) = some (.int .u8 (byteAt l i))) {i : Int} (n : Nat) (hn : i = n) (hl : n < l.length) :
    w.cell? ⟨b, p + i.toNat * 1, none⟩ = some (.int .u8 (byteAt l n)) := by
  subst hn
  rw [Nat.mul_one, Int.toNat_natCast]
  exact Vw.cell_in hV (hc n hl)
theorem ofInt_toNat {n a : Nat} (h : a < 2 ^ n) : (BitVec.ofInt n (a : Int)).toNat = a := by
  rw [BitVec.toNat_ofInt, ← Int.natCast_emod, Int.toNat_natCast, Nat.mod_eq_of_lt h]
theorem bv_and {n a b : Nat} (ha : a < 2 ^ n) (hb : b < 2 ^ n) : (BitVec.ofInt n (a : Int) &&& BitVec.ofInt n (b : Int)).toNat = a &&& b := by rw [BitVec.toNat_and, ofInt_toNat ha, ofInt_toNat hb]
theorem bv_or {n a b : Nat} (ha : a < 2 ^ n) (hb : b < 2 ^ n) : (BitVec.ofInt n (a : Int) ||| BitVec.ofInt n (b : Int)).toNat = a ||| b := by rw [BitVec.toNat_or, ofInt_toNat ha, ofInt_toNat hb]
theorem bv_xor {n a b : Nat} (ha : a < 2 ^ n) (hb : b < 2 ^ n) : (BitVec.ofInt n (a : Int) ^^^ BitVec.ofInt n (b : Int)).toNat = a ^^^ b := by rw [BitVec.toNat_xor, ofInt_toNat ha, ofInt_toNat hb]
theorem u16and {a b : Nat} (ha : a < 65536) (hb : b < 65536) : bitsOf .and .u16 (a : Int) (b : Int) = ((a &&& b : Nat) : Int) := by
  have h : a &&& b < 65536 := Nat.lt_of_le_of_lt Nat.and_le_left ha
  have e := bv_and (n := 16) (a := a) (b := b) ha hb
  show IntKind.u16.wrap ((BitVec.ofInt 16 (a : Int) &&& BitVec.ofInt 16 (b : Int)).toNat : Int) = _
  rw [e, u16m]; omega
theorem u16or {a b : Nat} (ha : a < 65536) (hb : b < 65536) : bitsOf .or .u16 (a : Int) (b : Int) = ((a ||| b : Nat) : Int) := by
  have h : a ||| b < 2 ^ 16 := Nat.or_lt_two_pow (by omega) (by omega)
  have e := bv_or (n := 16) (a := a) (b := b) ha hb
  show IntKind.u16.wrap ((BitVec.ofInt 16 (a : Int) ||| BitVec.ofInt 16 (b : Int)).toNat : Int) = _
  rw [e, u16m]; omega
theorem u32or {a b : Nat} (ha : a < 4294967296) (hb : b < 4294967296) : bitsOf .or .u32 (a : Int) (b : Int) = ((a ||| b : Nat) : Int) := by
  have h : a ||| b < 2 ^ 32 := Nat.or_lt_two_pow (by omega) (by omega)
  have e := bv_or (n := 32) (a := a) (b := b) ha hb
  show IntKind.u32.wrap ((BitVec.ofInt 32 (a : Int) ||| BitVec.ofInt 32 (b : Int)).toNat : Int) = _
  rw [e, u32m]; omega
theorem i64and {a b : Nat} (ha : a < 65536) (hb : b < 65536) : bitsOf .and .i64 (a : Int) (b : Int) = ((a &&& b : Nat) : Int) := by
  have h : a &&& b < 65536 := Nat.lt_of_le_of_lt Nat.and_le_left ha
  have e := bv_and (n := 64) (a := a) (b := b) (by omega) (by omega)
  show IntKind.i64.wrap ((BitVec.ofInt 64 (a : Int) &&& BitVec.ofInt 64 (b : Int)).toNat : Int) = _
  rw [e, i64w (by omega)]
theorem i64or {a b : Nat} (ha : a < 65536) (hb : b < 65536) : bitsOf .or .i64 (a : Int) (b : Int) = ((a ||| b : Nat) : Int) := by
  have h : a ||| b < 2 ^ 16 := Nat.or_lt_two_pow (by omega) (by omega)
  have e := bv_or (n := 64) (a := a) (b := b) (by omega) (by omega)
  show IntKind.i64.wrap ((BitVec.ofInt 64 (a : Int) ||| BitVec.ofInt 64 (b : Int)).toNat : Int) = _
  rw [e, i64w (by omega)]
theorem i64xor {a b : Nat} (ha : a < 65536) (hb : b < 65536) : bitsOf .xor .i64 (a : Int) (b : Int) = ((a ^^^ b : Nat) : Int) := by
  have h : a ^^^ b < 2 ^ 16 := Nat.xor_lt_two_pow (by omega) (by omega)
  have e := bv_xor (n := 64) (a := a) (b := b) (by omega) (by omega)
  show IntKind.i64.wrap ((BitVec.ofInt 64 (a : Int) ^^^ BitVec.ofInt 64 (b : Int)).toNat : Int) = _
  rw [e, i64w (by omega)]
theorem or_hi (a b : Nat) (hb : b < 256) : a * 256 ||| b = a * 256 + b := by
  have := Nat.shiftLeft_add_eq_or_of_lt (i := 8) (b := b) hb a
  rw [Nat.shiftLeft_eq] at this
  exact this.symm
theorem or_hi16 (a b : Nat) (hb : b < 65536) : a * 65536 ||| b = a * 65536 + b := by
  have := Nat.shiftLeft_add_eq_or_of_lt (i := 16) (b := b) hb a
  rw [Nat.shiftLeft_eq] at this
  exact this.symm
theorem or_hi24 (a b : Nat) (hb : b < 16777216) : a * 16777216 ||| b = a * 16777216 + b := by
  have := Nat.shiftLeft_add_eq_or_of_lt (i := 24) (b := b) hb a
  rw [Nat.shiftLeft_eq] at this
  exact this.symm
theorem two_eq {a b : Nat} (ha : a < 256) (hb : b < 256) :
    bitsOf .or .u16 (IntKind.u16.wrap (IntKind.u16.wrap (a : Int) * 2 ^ (min (8 : Int).toNat IntKind.u16.bits))) (IntKind.u16.wrap (b : Int)) = ((a * 256 + b : Nat) : Int) := by
  have e1 : IntKind.u16.wrap (IntKind.u16.wrap (a : Int) * 2 ^ (min (8 : Int).toNat IntKind.u16.bits)) = ((a * 256 : Nat) : Int) := by
    have : (2 : Int) ^ (min (8 : Int).toNat IntKind.u16.bits) = 256 := by decide
    rw [this, u16m, u16m]; omega
  have e2 : IntKind.u16.wrap (b : Int) = ((b : Nat) : Int) := by rw [u16m]; omega
  rw [e1, e2, u16or (by omega) (by omega), or_hi _ _ hb]
theorem four_eq {a b c d : Nat} (ha : a < 256) (hb : b < 256) (hc : c < 256) (hd : d < 256) :
    bitsOf .or .u32 (bitsOf .or .u32 (bitsOf .or .u32 (IntKind.u32.wrap (IntKind.u32.wrap (a : Int) * 2 ^ (min (24 : Int).toNat IntKind.u32.bits))) (IntKind.u32.wrap (IntKind.u32.wrap (b : Int) * 2 ^ (min (16 : Int).toNat IntKind.u32.bits))))
      (IntKind.u32.wrap (IntKind.u32.wrap (c : Int) * 2 ^ (min (8 : Int).toNat IntKind.u32.bits)))) (IntKind.u32.wrap (d : Int)) = ((((a * 256 + b) * 256 + c) * 256 + d : Nat) : Int) := by
  have e1 : IntKind.u32.wrap (IntKind.u32.wrap (a : Int) * 2 ^ (min (24 : Int).toNat IntKind.u32.bits)) = ((a * 16777216 : Nat) : Int) := by
    have : (2 : Int) ^ (min (24 : Int).toNat IntKind.u32.bits) = 16777216 := by decide
    rw [this, u32m, u32m]; omega
  have e2 : IntKind.u32.wrap (IntKind.u32.wrap (b : Int) * 2 ^ (min (16 : Int).toNat IntKind.u32.bits)) = ((b * 65536 : Nat) : Int) := by
    have : (2 : Int) ^ (min (16 : Int).toNat IntKind.u32.bits) = 65536 := by decide
    rw [this, u32m, u32m]; omega
  have e3 : IntKind.u32.wrap (IntKind.u32.wrap (c : Int) * 2 ^ (min (8 : Int).toNat IntKind.u32.bits)) = ((c * 256 : Nat) : Int) := by
    have : (2 : Int) ^ (min (8 : Int).toNat IntKind.u32.bits) = 256 := by decide
    rw [this, u32m, u32m]; omega
  have e4 : IntKind.u32.wrap (d : Int) = ((d : Nat) : Int) := by rw [u32m]; omega
  have s1 : bitsOf .or .u32 ((a * 16777216 : Nat) : Int) ((b * 65536 : Nat) : Int) = (((a * 256 + b) * 65536 : Nat) : Int) := by
    clear e1 e2 e3 e4
    rw [u32or (by omega) (by omega), or_hi24 _ _ (by omega)]; omega
  have s2 : bitsOf .or .u32 (((a * 256 + b) * 65536 : Nat) : Int) ((c * 256 : Nat) : Int) = ((((a * 256 + b) * 256 + c) * 256 : Nat) : Int) := by
    clear e1 e2 e3 e4 s1
    rw [u32or (by omega) (by omega), or_hi16 _ _ (by omega)]; omega
  have s3 : bitsOf .or .u32 ((((a * 256 + b) * 256 + c) * 256 : Nat) : Int) (d : Int) = ((((a * 256 + b) * 256 + c) * 256 + d : Nat) : Int) := by
    clear e1 e2 e3 e4 s1 s2
    rw [u32or (by omega) (by omega), or_hi _ _ hd]
  rw [e1, e2, e3, e4, s1, s2, s3]
theorem i64c {a : Int} {c : Nat} (h : a = c) (hc : c ≤ 9223372036854775807) : IntKind.i64.wrap a = (c : Int) := by subst h; exact i64w (by omega)
theorem u16c {a : Int} {c : Nat} (h : a = c) (hc : c ≤ 65535) : IntKind.u16.wrap a = (c : Int) := by subst h; exact u16w (by omega)
theorem u8c {a : Int} {c : Nat} (h : a = c) (hc : c ≤ 255) : IntKind.u8.wrap a = (c : Int) := by subst h; exact u8w (by omega)
theorem u32c {a : Int} {c : Nat} (h : a = c) (hc : c ≤ 4294967295) : IntKind.u32.wrap a = (c : Int) := by subst h; exact u32w (by omega)
theorem mask0 : ∀ c, c < 256 → (c &&& 192 = 0 ↔ c < 64) := by decide +kernel
theorem mask3 : ∀ c, c < 256 → (c &&& 192 = 192 ↔ 192 ≤ c) := by decide +kernel
theorem mask3x : ∀ c, c < 256 → 192 ≤ c → c ^^^ 192 = c - 192 := by decide +kernel
end Go.Proofs.YtmigokakpahgkaaGreatDoor
namespace Go.Proofs.YtmigokakpahgkaaGreatDoor
open Go
def w16 (b : List UInt8) (i : Nat) : Nat := byteAt b i * 256 + byteAt b (i + 1)
def w32 (b : List UInt8) (i : Nat) : Nat := ((byteAt b i * 256 + byteAt b (i + 1)) * 256 + byteAt b (i + 2)) * 256 + byteAt b (i + 3)
theorem w16_lt (b : List UInt8) (i : Nat) : w16 b i < 65536 := by
  have h1 := cU b i; have h2 := cU b (i + 1); unfold w16; omega
theorem w32_lt (b : List UInt8) (i : Nat) : w32 b i < 4294967296 := by
  have h1 := cU b i; have h2 := cU b (i + 1); have h3 := cU b (i + 2); have h4 := cU b (i + 3); unfold w32; omega
def seg (b : List UInt8) (i n : Nat) : List UInt8 := (b.drop i).take n
theorem seg_len {b : List UInt8} {i n : Nat} (h : i + n ≤ b.length) : (seg b i n).length = n := by unfold seg; simp; omega
def rd16 (b : List UInt8) (i : Nat) : Option Nat := if i + 2 ≤ b.length then some (w16 b i) else none
def rd32 (b : List UInt8) (i : Nat) : Option Nat := if i + 4 ≤ b.length then some (w32 b i) else none
def rdBytes (b : List UInt8) (i n : Nat) : Option (List UInt8) := if i + n ≤ b.length then some (seg b i n) else none
def orDot : List UInt8 → List UInt8
  | [] => [46]
  | x :: r => x :: r
theorem orDot_len (l : List UInt8) : 0 < (orDot l).length ∧ l.length ≤ (orDot l).length := by cases l <;> simp [orDot]
def nameS (b : List UInt8) (i : Nat) (out : List UInt8) (jumps e : Nat) : Option (List UInt8 × Nat) :=
  if h : i < b.length then
    if byteAt b i = 0 then
      if (orDot out).length > 254 then none else some (orDot out, if jumps = 0 then i + 1 else e)
    else if hc : byteAt b i < 64 then
      if hl : i + 1 + byteAt b i ≤ b.length then
        if (seg b (i + 1) (byteAt b i)).contains 46 then none
        else nameS b (i + 1 + byteAt b i) (out ++ seg b (i + 1) (byteAt b i) ++ [46]) jumps e
      else none
    else if 192 ≤ byteAt b i then
      if i + 1 < b.length then
        if hj : jumps < 10 then nameS b ((byteAt b i - 192) * 256 + byteAt b (i + 1)) out (jumps + 1) (if jumps = 0 then i + 2 else e)
        else none
      else none
    else none
  else none
termination_by (11 - jumps) * (b.length + 2) + (b.length + 1 - i)
decreasing_by
  · omega
  · have : (11 - jumps) = (11 - (jumps + 1)) + 1 := by omega
    rw [this, Nat.add_mul]
    omega
def name (b : List UInt8) (i : Nat) : Option (List UInt8 × Nat) := nameS b i [] 0 0
theorem nameS_long (b : List UInt8) (i : Nat) (out : List UInt8) (jumps e : Nat) (h : 254 < out.length) : nameS b i out jumps e = none := by
  fun_induction nameS b i out jumps e with
  | case1 i out jumps e hi h0 h1 => rfl
  | case2 i out jumps e hi h0 h1 =>
    have := orDot_len out
    omega
  | case4 i out jumps e hi h0 hc hl hd ih => exact ih (by simp; omega)
  | case6 i out jumps e hi h0 hc hc2 hl hj ih => exact ih h
  | _ => rfl
theorem nameS_some {b : List UInt8} {i : Nat} {out : List UInt8} {jumps e : Nat} {o : List UInt8} {e' : Nat} (h : nameS b i out jumps e = some (o, e')) (he : 0 < jumps → e ≤ b.length) :
    0 < o.length ∧ o.length ≤ 254 ∧ e' ≤ b.length := by
  fun_induction nameS b i out jumps e with
  | case1 i out jumps e hi h0 h1 => cases h
  | case2 i out jumps e hi h0 h1 =>
    simp only [Option.some.injEq, Prod.mk.injEq] at h
    obtain ⟨rfl, rfl⟩ := h
    refine ⟨(orDot_len out).1, by omega, ?_⟩
    split
    · omega
    · exact he (by omega)
  | case4 i out jumps e hi h0 hc hl hd ih => exact ih h he
  | case6 i out jumps e hi h0 hc hc2 hl hj ih => exact ih h (fun _ => by split <;> first | omega | exact he (by omega))
  | _ => cases h
theorem name_some {b : List UInt8} {i : Nat} {o : List UInt8} {e : Nat} (h : name b i = some (o, e)) : 0 < o.length ∧ o.length ≤ 254 ∧ e ≤ b.length := nameS_some h (by omega)
def pass (b : List UInt8) (i : Nat) : Option Nat :=
  if h : i < b.length then
    if byteAt b i = 0 then some (i + 1)
    else if byteAt b i < 64 then
      if i + 1 + byteAt b i ≤ b.length then pass b (i + 1 + byteAt b i) else none
    else if 192 ≤ byteAt b i then some (i + 2)
    else none
  else none
termination_by b.length - i
decreasing_by omega
theorem pass_some {b : List UInt8} {i e : Nat} (h : pass b i = some e) : e ≤ b.length + 1 := by
  fun_induction pass b i with
  | case1 i hi h0 => simp at h; omega
  | case2 i hi h0 hc hl ih => exact ih h
  | case4 i hi h0 hc hc2 => simp at h; omega
  | _ => cases h
structure PPair where
  key : Nat
  data : List UInt8
structure PRec where
  name : List UInt8 := []
  type : Nat := 0
  cls : Nat := 0
  ttl : Nat := 0
  length : Nat := 0
  kind : Nat := 0
  data : List UInt8 := []
  host : List UInt8 := []
  box : List UInt8 := []
  n1 : Nat := 0
  n2 : Nat := 0
  n3 : Nat := 0
  n4 : Nat := 0
  n5 : Nat := 0
  texts : List (List UInt8) := []
  pairs : List PPair := []
structure PAsk where
  name : List UInt8
  type : Nat
  cls : Nat
structure PSeen where
  fault : Nat := 0
  id : Nat := 0
  bits : Nat := 0
  asks : List PAsk := []
  recs : List PRec := []
structure PMsg where
  id : Nat := 0
  bits : Nat := 0
  asks : List PAsk := []
  answers : List PRec := []
  authorities : List PRec := []
  additionals : List PRec := []
def textsS (b : List UInt8) (i e : Nat) (acc : List (List UInt8)) : Option (List (List UInt8)) :=
  if _h : i < e then
    if i < b.length ∧ i + 1 + byteAt b i ≤ b.length ∧ i + 1 + byteAt b i ≤ e then textsS b (i + 1 + byteAt b i) e (acc ++ [seg b (i + 1) (byteAt b i)])
    else none
  else some acc
termination_by e - i
decreasing_by omega
def optsS (b : List UInt8) (i e : Nat) (acc : List PPair) : Option (List PPair) :=
  if _h : i < e then
    if i + 4 ≤ b.length ∧ i + 4 + w16 b (i + 2) ≤ b.length then optsS b (i + 4 + w16 b (i + 2)) e (acc ++ [⟨w16 b i, seg b (i + 4) (w16 b (i + 2))⟩])
    else none
  else some acc
termination_by e - i
decreasing_by omega
def parsS (b : List UInt8) (i e : Nat) (acc : List PPair) : Option (List PPair) :=
  if _h : i < e then
    if i + 4 ≤ b.length ∧ i + 4 + w16 b (i + 2) ≤ b.length ∧ ¬ (acc ≠ [] ∧ w16 b i = 0) then parsS b (i + 4 + w16 b (i + 2)) e (acc ++ [⟨w16 b i, seg b (i + 4) (w16 b (i + 2))⟩])
    else none
  else if i = e then some acc else none
termination_by e - i
decreasing_by omega
theorem parsS_over {b : List UInt8} {i e : Nat} {acc : List PPair} (h : e < i) : parsS b i e acc = none := by
  rw [parsS, dif_neg (by omega), if_neg (by omega)]
def kindOfType (t : Nat) : Nat :=
  if t = 1 then 1 else if t = 2 then 2 else if t = 5 then 3 else if t = 6 then 4 else if t = 12 then 5 else if t = 15 then 6 else if t = 16 then 7 else if t = 28 then 8
  else if t = 33 then 9 else if t = 41 then 10 else if t = 64 then 11 else if t = 65 then 12 else 13
def body (b : List UInt8) (i kind len : Nat) : Option PRec :=
  match kind with
  | 1 => (rdBytes b i 4).map fun d => { kind := 1, data := d }
  | 8 => (rdBytes b i 16).map fun d => { kind := 8, data := d }
  | 2 => (name b i).map fun h => { kind := 2, host := h.1 }
  | 3 => (name b i).map fun h => { kind := 3, host := h.1 }
  | 5 => (name b i).map fun h => { kind := 5, host := h.1 }
  | 6 => (rd16 b i).bind fun n1 => (name b (i + 2)).map fun h => { kind := 6, n1 := n1, host := h.1 }
  | 9 => (rd16 b i).bind fun n1 => (rd16 b (i + 2)).bind fun n2 => (rd16 b (i + 4)).bind fun n3 => (name b (i + 6)).map fun h => { kind := 9, n1 := n1, n2 := n2, n3 := n3, host := h.1 }
  | 4 => (name b i).bind fun h => (name b h.2).bind fun x => (rd32 b x.2).bind fun n1 => (rd32 b (x.2 + 4)).bind fun n2 => (rd32 b (x.2 + 8)).bind fun n3 => (rd32 b (x.2 + 12)).bind fun n4 =>
      (rd32 b (x.2 + 16)).map fun n5 => { kind := 4, host := h.1, box := x.1, n1 := n1, n2 := n2, n3 := n3, n4 := n4, n5 := n5 }
  | 7 => (textsS b i (i + len) []).map fun l => { kind := 7, texts := l }
  | 10 => (optsS b i (i + len) []).map fun l => { kind := 10, pairs := l }
  | 11 => (rd16 b i).bind fun n1 => (name b (i + 2)).bind fun h => (parsS b h.2 (i + len) []).map fun l => { kind := 11, n1 := n1, host := h.1, pairs := l }
  | 12 => (rd16 b i).bind fun n1 => (name b (i + 2)).bind fun h => (parsS b h.2 (i + len) []).map fun l => { kind := 12, n1 := n1, host := h.1, pairs := l }
  | k => (rdBytes b i len).map fun d => { kind := k, data := d }
def ask (b : List UInt8) (i : Nat) : Option (PAsk × Nat) :=
  (name b i).bind fun h => (rd16 b h.2).bind fun t => (rd16 b (h.2 + 2)).map fun c => (⟨h.1, t, c⟩, h.2 + 4)
def header (b : List UInt8) (i : Nat) : Option (PRec × Nat) :=
  (name b i).bind fun h => (rd16 b h.2).bind fun t => (rd16 b (h.2 + 2)).bind fun c => (rd32 b (h.2 + 4)).bind fun ttl => (rd16 b (h.2 + 8)).map fun n =>
    ({ name := h.1, type := t, cls := c, ttl := ttl, length := n }, h.2 + 10)
def skipRec (b : List UInt8) (i : Nat) : Option Nat :=
  (pass b i).bind fun e => if e + 10 ≤ b.length then if e + 10 + w16 b (e + 8) ≤ b.length then some (e + 10 + w16 b (e + 8)) else none else none
def skipAsk (b : List UInt8) (i : Nat) : Option Nat :=
  (pass b i).bind fun e => if e + 4 ≤ b.length then some (e + 4) else none
def whole (r h : PRec) : PRec := { r with name := h.name, type := h.type, cls := h.cls, ttl := h.ttl, length := h.length }
inductive EK where
  | ok | early | done | other
  deriving DecidableEq
def EK.num : EK → Nat
  | .ok => 0
  | .early => 1
  | .done => 2
  | .other => 3
structure PM where
  sec : Nat := 0
  index : Nat := 0
  at_ : Nat := 0
  valid : Bool := false
  headAt : Nat := 0
  htype : Nat := 0
  hlen : Nat := 0
def count (b : List UInt8) (s : Nat) : Nat := w16 b (2 + 2 * s)
section
variable (b : List UInt8)
def advance (m : PM) (s : Nat) : EK × PM :=
  if m.sec < s then (.early, m) else if s < m.sec then (.done, m)
  else if m.index = count b s then (.done, { m with valid := false, index := 0, sec := m.sec + 1 }) else (.ok, { m with valid := false })
def askM (m : PM) : EK × Option PAsk × PM :=
  match advance b m 1 with
  | (.ok, m1) => match ask b m1.at_ with
    | some (a, e) => (.ok, some a, { m1 with at_ := e, index := m1.index + 1 })
    | none => (.other, none, m1)
  | (k, m1) => (k, none, m1)
def passAskM (m : PM) : EK × PM :=
  match advance b m 1 with
  | (.ok, m1) => match skipAsk b m1.at_ with
    | some e => (.ok, { m1 with at_ := e, index := m1.index + 1 })
    | none => (.other, m1)
  | (k, m1) => (k, m1)
def beginM (m : PM) (s : Nat) : EK × Option PRec × PM :=
  match advance b (if m.valid then { m with at_ := m.headAt } else m) s with
  | (.ok, m1) => match header b m1.at_ with
    | some (r, e) => (.ok, some r, { m1 with valid := true, headAt := m1.at_, htype := r.type, hlen := r.length, at_ := e })
    | none => (.other, none, m1)
  | (k, m1) => (k, none, m1)
def recordM (m : PM) (s : Nat) : EK × Option PRec × PM :=
  match beginM b m s with
  | (.ok, some h, m1) => match body b m1.at_ (kindOfType h.type) h.length with
    | some r => (.ok, some (whole r h), { m1 with valid := false, at_ := m1.at_ + h.length, index := m1.index + 1 })
    | none => (.other, none, { m1 with valid := false })
  | (k, _, m1) => (k, none, m1)
def passM (m : PM) (s : Nat) : EK × PM :=
  if m.valid = true ∧ m.sec = s then
    if m.at_ + m.hlen ≤ b.length then (.ok, { m with at_ := m.at_ + m.hlen, valid := false, index := m.index + 1 }) else (.other, m)
  else match advance b m s with
    | (.ok, m1) => match skipRec b m1.at_ with
      | some e => (.ok, { m1 with at_ := e, index := m1.index + 1 })
      | none => (.other, m1)
    | (k, m1) => (k, m1)
def bodyM (m : PM) (kind : Nat) : EK × Option PRec × PM :=
  if m.valid = false ∨ (kind ≠ 13 ∧ kindOfType m.htype ≠ kind) then (.early, none, m)
  else match body b m.at_ kind m.hlen with
    | some r => (.ok, some (if kind = 13 then { r with type := m.htype } else r), { m with at_ := m.at_ + m.hlen, valid := false, index := m.index + 1 })
    | none => (.other, none, m)
def allAsks : Nat → PM → List PAsk → EK × List PAsk × PM
  | 0, m, acc => (.ok, acc, m)
  | n + 1, m, acc => match askM b m with
    | (.ok, some a, m1) => allAsks n m1 (acc ++ [a])
    | (.ok, none, m1) => (.other, [], m1)
    | (.done, _, m1) => (.ok, acc, m1)
    | (k, _, m1) => (k, [], m1)
def allRecs (s : Nat) : Nat → PM → List PRec → EK × List PRec × PM
  | 0, m, acc => (.ok, acc, m)
  | n + 1, m, acc => match recordM b m s with
    | (.ok, some a, m1) => allRecs s n m1 (acc ++ [a])
    | (.ok, none, m1) => (.other, [], m1)
    | (.done, _, m1) => (.ok, acc, m1)
    | (k, _, m1) => (k, [], m1)
def allPassAsk : Nat → PM → EK × PM
  | 0, m => (.ok, m)
  | n + 1, m => match passAskM b m with
    | (.ok, m1) => allPassAsk n m1
    | (.done, m1) => (.ok, m1)
    | (k, m1) => (k, m1)
def allPass (s : Nat) : Nat → PM → EK × PM
  | 0, m => (.ok, m)
  | n + 1, m => match passM b m s with
    | (.ok, m1) => allPass s n m1
    | (.done, m1) => (.ok, m1)
    | (k, m1) => (k, m1)
end
def fuel : Nat := 65537
def onlyRec (k : EK) (r : Option PRec) : PSeen := { fault := k.num, recs := match k, r with | .ok, some r => [r] | _, _ => [] }
section
variable (b : List UInt8)
def startM : PSeen × PM :=
  if b.length < 12 then ({ fault := 3 }, {}) else ({ id := w16 b 0, bits := w16 b 2 }, { sec := 1, at_ := 12 })
def questionM (m : PM) (step : Nat) : PSeen × PM :=
  if step = 2 then
    let r := askM b m
    ({ fault := r.1.num, asks := match r.1, r.2.1 with | .ok, some a => [a] | _, _ => [] }, r.2.2)
  else if step = 3 then
    let r := allAsks b fuel m []
    ({ fault := r.1.num, asks := if r.1 = .ok then r.2.1 else [] }, r.2.2)
  else if step = 4 then
    let r := passAskM b m
    ({ fault := r.1.num }, r.2)
  else
    let r := allPassAsk b fuel m
    ({ fault := r.1.num }, r.2)
def partM (m : PM) (s step : Nat) : PSeen × PM :=
  if step = 0 then
    let r := beginM b m s
    (onlyRec r.1 r.2.1, r.2.2)
  else if step = 1 then
    let r := recordM b m s
    (onlyRec r.1 r.2.1, r.2.2)
  else if step = 2 then
    let r := allRecs b s fuel m []
    ({ fault := r.1.num, recs := if r.1 = .ok then r.2.1 else [] }, r.2.2)
  else if step = 3 then
    let r := passM b m s
    ({ fault := r.1.num }, r.2)
  else
    let r := allPass b s fuel m
    ({ fault := r.1.num }, r.2)
def stepM (m kept : PM) (step : Int) : PSeen × PM × PM :=
  if step = 1 then let r := startM b; (r.1, r.2, kept)
  else if 2 ≤ step ∧ step ≤ 5 then let r := questionM b m step.toNat; (r.1, r.2, kept)
  else if 6 ≤ step ∧ step ≤ 20 then let r := partM b m (2 + (step.toNat - 6) / 5) ((step.toNat - 6) % 5); (r.1, r.2, kept)
  else if 20 < step ∧ step ≤ 33 then let r := bodyM b m (step.toNat - 20); (onlyRec r.1 r.2.1, r.2.2, kept)
  else if step = 40 then ({}, m, m)
  else if step = 41 then ({}, kept, kept)
  else ({ fault := 3 }, m, kept)
def runM : PM → PM → List Int → List PSeen
  | _, _, [] => []
  | m, kept, s :: r => let x := stepM b m kept s; x.1 :: runM x.2.1 x.2.2 r
def parseM (steps : List Int) : List PSeen := runM b {} {} steps
def unpackM : Option PMsg :=
  match parseM b [1, 3, 8, 13, 18] with
  | [s0, s1, s2, s3, s4] => if s0.fault = 0 ∧ s1.fault = 0 ∧ s2.fault = 0 ∧ s3.fault = 0 ∧ s4.fault = 0 then
      some { id := s0.id, bits := s0.bits, asks := s1.asks, answers := s2.recs, authorities := s3.recs, additionals := s4.recs } else none
  | _ => none
end
structure WF (b : List UInt8) (m : PM) : Prop where
  before : m.sec = 0 → m = {}
  secs : m.sec ≤ 5
  behind : m.sec = 5 → m.index = 0 ∧ m.valid = false
  idx : 1 ≤ m.sec → m.sec ≤ 4 → m.index ≤ count b m.sec
  idxV : m.valid = true → m.index < count b m.sec ∧ m.headAt ≤ b.length ∧ m.at_ ≤ b.length
  long : 1 ≤ m.sec → 12 ≤ b.length
  at_le : m.at_ ≤ b.length + 65535
  hl : m.hlen < 65536
  ht : m.htype < 65536
theorem cW (b : List UInt8) (s : Nat) : count b s < 65536 := w16_lt _ _
end Go.Proofs.YtmigokakpahgkaaGreatDoor
namespace Go.Proofs.YtmigokakpahgkaaGreatDoor
open Go
theorem lset_of {α : Type} {l : List α} {p : Nat} (v : α) (h : p < l.length) : lset l p v = some (l.set p v) := by
  induction l generalizing p with
  | nil => simp at h
  | cons x r ih =>
    cases p with
    | zero => rfl
    | succ p => simp only [lset, ih (by simpa using h)]; rfl
section
variable {P : Program} {n : Nat} {ρ : Env} {w0 : Base} {w : World} {L : List (Nat × Obj)} {K : Env → World → Prop} {d : Tmp} {ty : TypeId} {pos : String} {af : Array Edge} {g : Option (Nat × Bool)}
theorem o_storeP {T : TypeId} {x y : Operand} {kk k b p : Nat} {l l' : List Value} {E : TypeId} {v : Value} {L' : List (Nat × Obj)} (hs : St w0 w L) (hT : kindOf P T = some (false, kk)) (h1 : kk = 1)
    (hx : ev ρ x = some (.pointer (some ⟨b, p, none⟩))) (hy : ev ρ y = some v) (hv : v.oneCell' = true) (hk : lget L k = some (b, .cells l.toArray E (0, 0))) (hp : p < l.length) (hl : l.set p v = l')
    (hL : lset L k (b, .cells l'.toArray E (0, 0)) = some L') (hK : ∀ w', St w0 w' L' → K ρ w') : OW P n ⟨none, .store T x y, ty, pos, af, g⟩ K ρ w := by
  subst hl
  exact aS hs hT h1 hx hy hv hk (lset_of v hp) hL hK
theorem po_fa0' {S : TypeId} {x : Operand} {f b p : Nat} (hS : fieldOff P S f = some 0) (hx : ev ρ x = some (.pointer (some ⟨b, p, none⟩))) :
    PO P (.fieldAddr S x f) ρ w (.pointer (some ⟨b, p, none⟩)) := bD hS hx
theorem po_part {T e : TypeId} {x xl xh : Operand} {k k' : IntKind} {b p len cap : Nat} {lo hi : Int} (l m : Nat) (hT : elemSize P T = some (e, 1)) (hx : ev ρ x = some (.slice (some ⟨b, p, none⟩) len cap)) (hl : ev ρ xl = some (.int k lo))
    (hh : ev ρ xh = some (.int k' hi)) (h1 : lo = l) (h2 : hi = (l + m : Nat)) (h0 : 0 < m) (hc : l + m ≤ cap) : PO P (.slice T x (some xl) (some xh) none) ρ w (.slice (some ⟨b, p + l, none⟩) m (cap - l)) := by
  subst h1 h2
  have h := po_slice (w := w) hT hx (.yes _ hl (by omega)) (.yes _ hh (by omega)) (by omega) (by omega)
  have e1 : sliceAddr (some ⟨b, p, none⟩) ((l : Int)).toNat cap 1 = some ⟨b, p + l, none⟩ := by
    simp only [Int.toNat_natCast, sliceAddr]
    rw [if_neg (by omega)]
    simp [add_at]
  have e2 : ((l + m : Nat) : Int).toNat - ((l : Int)).toNat = m := by omega
  rw [e1, e2, Int.toNat_natCast] at h
  exact h
theorem po_slice_arr0 {T e : TypeId} {x : Operand} {n b p k : Nat} {kk : IntKind} (hT : arrSize P T = some (n, e, k)) (h0 : 0 < n) (hx : ev ρ x = some (.pointer (some ⟨b, p, none⟩))) :
    PO P (.slice T x none (some (.const (.int kk 0))) none) ρ w (.slice (some ⟨b, p, none⟩) 0 n) := by
  have h := po_slice_arr (w := w) (hi := some (.const (.int kk 0))) hT hx (.no _) (.yes (k := kk) (i := 0) _ rfl (by omega)) (by omega) (by simp)
  rw [if_neg (by omega)] at h
  simpa using h
end
theorem byteAt_seg {l : List UInt8} {i n j : Nat} (h : j < n) : byteAt (seg l i n) j = byteAt l (i + j) := by
  simp [byteAt, seg, List.getD, h]
theorem cells_seg {V : Vw} {l : List UInt8} {b p i n : Nat} (hc : ∀ i, i < l.length → V.cell b (p + i) = some (.int .u8 (byteAt l i))) (h : i + n ≤ l.length) :
    ∀ j, j < (seg l i n).length → V.cell b (p + i + j) = some (.int .u8 (byteAt (seg l i n) j)) := by
  intro j hj
  rw [seg_len h] at hj
  rw [byteAt_seg hj, Nat.add_assoc]
  exact hc _ (by omega)
theorem getElem_byte {l : List UInt8} {j : Nat} {u : Value} (h : (l.map byteVal)[j]? = some u) : j < l.length ∧ u = .int .u8 (byteAt l j) := by
  simp only [List.getElem?_map, Option.map_eq_some_iff] at h
  obtain ⟨x, hx, rfl⟩ := h
  have hlt : j < l.length := by
    rcases Nat.lt_or_ge j l.length with h' | h'
    · exact h'
    · simp [List.getElem?_eq_none h'] at hx
  refine ⟨hlt, ?_⟩
  simp only [byteVal, byteAt, List.getD, hx, Option.getD_some]
theorem src_seg {P : Program} {V : Vw} {w : World} {l : List UInt8} {b p i n c : Nat} (hV : V.In w) (hc : ∀ i, i < l.length → V.cell b (p + i) = some (.int .u8 (byteAt l i))) (h : i + n ≤ l.length) :
    Src P w 1 (.slice (some ⟨b, p + i, none⟩) n c) n ((seg l i n).map byteVal) := by
  refine src_slice (by simp [seg_len h]) fun j u hu => ?_
  obtain ⟨hj, rfl⟩ := getElem_byte hu
  exact Vw.cell_in hV (cells_seg hc h j hj)
theorem has46 {l : List UInt8} : l.contains 46 = true ↔ ∃ j, j < l.length ∧ byteAt l j = 46 := by
  rw [List.contains_iff_mem, List.mem_iff_getElem]
  constructor
  · rintro ⟨j, hj, he⟩
    exact ⟨j, hj, by simp [byteAt, List.getD, List.getElem?_eq_getElem hj, he]⟩
  · rintro ⟨j, hj, he⟩
    refine ⟨j, hj, ?_⟩
    simp only [byteAt, List.getD, List.getElem?_eq_getElem hj, Option.getD_some] at he
    exact UInt8.toNat_inj.1 he
theorem dH (l : List UInt8) : Flat (l.map byteVal) := fun v hv => by
  obtain ⟨x, _, rfl⟩ := List.mem_map.1 hv
  rfl
def nmC (out : List UInt8) (n : Nat) : List Value := out.map byteVal ++ rep (255 - out.length) (.int .u8 0) ++ [.int .u8 n]
theorem cM {out : List UInt8} {n : Nat} (h : out.length ≤ 255) : (nmC out n).length = 256 := by simp [nmC]; omega
theorem flat_nmC (out : List UInt8) (n : Nat) : Flat (nmC out n) := flat_app (flat_app (dH out) (flat_rep _ rfl)) (bX rfl flat_nil)
theorem nmC_app {pre post : List Value} {out news : List UInt8} {n np : Nat} (hp : pre.length = np) (h : out.length + news.length ≤ 255) :
    (pre ++ nmC out n ++ post).take (np + out.length * 1) ++ news.map byteVal ++ (pre ++ nmC out n ++ post).drop (np + out.length * 1 + news.length * 1) = pre ++ nmC (out ++ news) n ++ post := by
  subst hp
  have e1 : pre ++ nmC out n ++ post = (pre ++ out.map byteVal) ++ (rep (255 - out.length) (.int .u8 0) ++ [.int .u8 n] ++ post) := by simp [nmC]
  have e2 : pre.length + out.length * 1 = (pre ++ out.map byteVal).length := by simp
  rw [e1, ← List.drop_drop, e2, List.take_left, List.drop_left]
  have e3 : (255 - out.length) = news.length + (255 - (out ++ news).length) := by simp; omega
  have e4 : rep (255 - out.length) (Value.int .u8 0) = rep news.length (.int .u8 0) ++ rep (255 - (out ++ news).length) (.int .u8 0) := by rw [e3]; simp [rep, List.replicate_append_replicate]
  rw [e4, Nat.mul_one]
  have e5 : (rep news.length (Value.int .u8 0) ++ rep (255 - (out ++ news).length) (.int .u8 0) ++ [Value.int .u8 n] ++ post).drop news.length = rep (255 - (out ++ news).length) (Value.int .u8 0) ++ [Value.int .u8 n] ++ post := by
    rw [List.append_assoc, List.append_assoc, List.drop_left' (by simp)]
    simp
  rw [e5]
  simp [nmC]
theorem nmC_set {pre post : List Value} {out : List UInt8} {n m np : Nat} (hp : pre.length = np) (h : out.length ≤ 255) :
    (pre ++ nmC out n ++ post).set (np + 255) (.int .u8 m) = pre ++ nmC out m ++ post := by
  subst hp
  have e1 : ∀ k, pre ++ nmC out k ++ post = (pre ++ (out.map byteVal ++ rep (255 - out.length) (.int .u8 0))) ++ (.int .u8 k :: post) := fun k => by simp [nmC]
  rw [e1, e1, List.set_append_right _ _ (by simp; omega)]
  have : pre.length + 255 - (pre ++ (out.map byteVal ++ rep (255 - out.length) (Value.int .u8 0))).length = 0 := by simp; omega
  rw [this]
  rfl
section
variable {P : Program} {n : Nat} {ρ : Env} {w0 : Base} {w : World} {L : List (Nat × Obj)} {K : Env → World → Prop} {d : Tmp} {ty : TypeId} {pos : String} {af : Array Edge} {g : Option (Nat × Bool)}
theorem o_appName {t u e : TypeId} {bytes m kk nb np z : Nat} {zs pre post : List Value} {out news : List UInt8} {s x : Operand} {xv : Value} {E : TypeId} {L' : List (Nat × Obj)} (ht : eltOk P t = some (e, 1, bytes, zs)) (hu : SS P u)
    (hs : St w0 w L) (hpre : pre.length = np) (hsv : ev ρ s = some (.slice (some ⟨nb, np, none⟩) out.length 255)) (hx : ev ρ x = some xv) (hsrc : Src P w 1 xv m (news.map byteVal)) (hm : m = news.length)
    (hkk : lget L kk = some (nb, .cells (pre ++ nmC out z ++ post).toArray E (0, 0))) (hroom : out.length + news.length ≤ 255)
    (hL : lset L kk (nb, .cells (pre ++ nmC (out ++ news) z ++ post).toArray E (0, 0)) = some L') (hd : Nat.blt d n = true)
    (hk : ∀ w', St w0 w' L' → K (upd ρ d (.slice (some ⟨nb, np, none⟩) (out ++ news).length 255)) w') :
    OW P n ⟨some d, .call { callee := .builtin .append, args := #[s, x], argTypes := #[t, u] }, ty, pos, af, g⟩ K ρ w := by
  subst hm
  have e1 := nmC_app (pre := pre) (post := post) (out := out) (news := news) (n := z) hpre hroom
  refine o_appendAt (kk := kk) (k := news.length) (l := pre ++ nmC out z ++ post) (L' := L') ht hu hs hsv hx hsrc (dH _) hkk hroom ?_ (by rw [e1]; exact hL) hd ?_
  · rw [List.length_append, List.length_append, cM (by omega)]; omega
  · intro w' hs'
    have := hk w' hs'
    rwa [List.length_append] at this
end
theorem i64shl8 {a : Nat} (h : a < 65536) : IntKind.i64.wrap ((a : Int) * 2 ^ (min (8 : Int).toNat IntKind.i64.bits)) = ((a * 256 : Nat) : Int) := by
  have : (2 : Int) ^ (min (8 : Int).toNat IntKind.i64.bits) = 256 := by decide
  rw [this]
  exact i64c (by omega) (by omega)
theorem nameS_e (b : List UInt8) (i : Nat) (out : List UInt8) (j e e' : Nat) (hj : j = 0) : nameS b i out j e = nameS b i out j e' := by
  fun_induction nameS b i out j e with
  | case1 i out jumps e hi h0 h1 => rw [nameS, dif_pos hi, if_pos h0, if_pos h1]
  | case2 i out jumps e hi h0 h1 => rw [nameS, dif_pos hi, if_pos h0, if_neg h1]; simp [hj]
  | case3 i out jumps e hi h0 hc hl hd => rw [nameS, dif_pos hi, if_neg h0, dif_pos hc, dif_pos hl, if_pos hd]
  | case4 i out jumps e hi h0 hc hl hd ih =>
    rw [ih hj]
    conv => rhs; rw [nameS, dif_pos hi, if_neg h0, dif_pos hc, dif_pos hl, if_neg hd]
  | case5 i out jumps e hi h0 hc hl => rw [nameS, dif_pos hi, if_neg h0, dif_pos hc, dif_neg hl]
  | case6 i out jumps e hi h0 hc hc2 hl hj' ih =>
    conv => rhs; rw [nameS, dif_pos hi, if_neg h0, dif_neg hc, if_pos hc2, if_pos hl, dif_pos hj']
    simp [hj]
  | case7 i out jumps e hi h0 hc hc2 hl hj' => rw [nameS, dif_pos hi, if_neg h0, dif_neg hc, if_pos hc2, if_pos hl, dif_neg hj']
  | case8 i out jumps e hi h0 hc hc2 hl => rw [nameS, dif_pos hi, if_neg h0, dif_neg hc, if_pos hc2, if_neg hl]
  | case9 i out jumps e hi h0 hc hc2 => rw [nameS, dif_pos hi, if_neg h0, dif_neg hc, if_neg hc2]
  | case10 i out jumps e hi => rw [nameS, dif_neg hi]
theorem RB.part {V : Vw} {a : Option Addr} {cap i m : Nat} {l : List UInt8} (hb : RB V (.slice a l.length cap) l) (h : i + m ≤ l.length) : RB V (.slice (sliceAddr a i cap 1) m (cap - i)) (seg l i m) := by
  have hm : (seg l i m).length = m := seg_len h
  unfold RB
  rw [hm]
  refine ⟨by simp [hm], ?_⟩
  rcases hb.2 with ⟨h1, h2⟩ | ⟨b, p, c, h1, h2, h3⟩
  · have hl : l.length = 0 := h2
    have hi : i = 0 := by omega
    have hm0 : m = 0 := by omega
    subst hi hm0
    simp only [Value.slice.injEq] at h1
    obtain ⟨rfl, _, rfl⟩ := h1
    exact .inl ⟨rfl, rfl⟩
  · simp only [Value.slice.injEq] at h1
    obtain ⟨rfl, _, rfl⟩ := h1
    by_cases hc : cap = i
    · subst hc
      have hm0 : m = 0 := by omega
      subst hm0
      refine .inr ⟨b, p, cap - cap, by simp [sliceAddr], by omega, fun j u hu => ?_⟩
      have : (seg l cap 0).map byteVal = [] := by simp [seg]
      rw [this] at hu
      simp at hu
    · refine .inr ⟨b, p + i, cap - i, by simp [sliceAddr, hc, add_at], by omega, fun j u hu => ?_⟩
      obtain ⟨hj, rfl⟩ := getElem_byte hu
      rw [hm] at hj
      rw [byteAt_seg hj, Nat.add_assoc]
      refine h3 _ _ ?_
      have hlt : i + j < l.length := by omega
      simp [byteVal, byteAt, List.getD, List.getElem?_eq_getElem hlt]
section
variable {P : Program} {ρ : Env} {w : World}
theorem po_partR {T e : TypeId} {x xl xh : Operand} {k k' : IntKind} {a : Option Addr} {len cap : Nat} {lo hi : Int} (l m : Nat) (hT : elemSize P T = some (e, 1)) (hx : ev ρ x = some (.slice a len cap)) (hl : ev ρ xl = some (.int k lo))
    (hh : ev ρ xh = some (.int k' hi)) (h1 : lo = l) (h2 : hi = (l + m : Nat)) (hc : l + m ≤ cap) : PO P (.slice T x (some xl) (some xh) none) ρ w (.slice (sliceAddr a l cap 1) m (cap - l)) := by
  subst h1 h2
  have h := po_slice (w := w) hT hx (.yes _ hl (by omega)) (.yes _ hh (by omega)) (by omega) (by omega)
  have e2 : ((l + m : Nat) : Int).toNat - ((l : Int)).toNat = m := by omega
  rw [e2, Int.toNat_natCast] at h
  exact h
theorem po_tailR {T e : TypeId} {x xl : Operand} {k : IntKind} {a : Option Addr} {len cap : Nat} {lo : Int} (l : Nat) (hT : elemSize P T = some (e, 1)) (hx : ev ρ x = some (.slice a len cap)) (hl : ev ρ xl = some (.int k lo))
    (h1 : lo = l) (h2 : l ≤ len) (hc : len ≤ cap) : PO P (.slice T x (some xl) none none) ρ w (.slice (sliceAddr a l cap 1) (len - l) (cap - l)) := by
  subst h1
  have h := po_slice (w := w) hT hx (.yes _ hl (by omega)) (.no _) (by omega) hc
  rw [Int.toNat_natCast] at h
  exact h
theorem po_bytesStrR {S D e : TypeId} {x : Operand} {V : Vw} {v : Value} {l : List UInt8} (hb : RB V v l) (hV : V.In w) (hS : P.underlying S = some (.slice e)) (he : P.underlying e = some (.int .u8)) (hD : P.underlying D = some .string)
    (hx : ev ρ x = some v) : PO P (.convert S D x) ρ w (.string (ofBytes l)) := by
  rcases hb.2 with ⟨h1, h2⟩ | ⟨b, p, c, h1, h2, h3⟩
  · have : l = [] := List.eq_nil_of_length_eq_zero h2
    subst this h1
    exact po_bytesStr_nil hS he hD hx
  · subst h1
    exact po_bytesStr hS he hD hx fun i u hi => Vw.cell_in hV (h3 i _ (by simp [hi, byteVal]))
end
theorem RB.src {P : Program} {w : World} {V : Vw} {v : Value} {l : List UInt8} (h : RB V v l) (hV : V.In w) : Src P w 1 v l.length (l.map byteVal) := SlV.src h hV
theorem RB.len {P : Program} {w : World} {V : Vw} {v : Value} {l : List UInt8} (h : RB V v l) : (Builtin.lenOf v).run P w = .ok l.length w := by
  obtain ⟨a, cap, rfl, _⟩ := h.form
  simp [Builtin.lenOf]
end Go.Proofs.YtmigokakpahgkaaGreatDoor

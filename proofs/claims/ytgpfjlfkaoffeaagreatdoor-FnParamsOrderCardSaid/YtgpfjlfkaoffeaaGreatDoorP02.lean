/- The proof layer of this claim, second part: memory as a list of owned blocks, and the rules for operations that give a value and leave the world alone. -/
import Derived.Test.YtgpfjlfkaoffeaaGreatDoorP01
set_option linter.all false
namespace Go.Proofs.YtgpfjlfkaoffeaaGreatDoor
open Go
def lget {α : Type} : List α → Nat → Option α
  | [], _ => none
  | x :: _, 0 => some x
  | _ :: r, k + 1 => lget r k
def lset {α : Type} : List α → Nat → α → Option (List α)
  | [], _, _ => none
  | _ :: r, 0, v => some (v :: r)
  | x :: r, k + 1, v => match lset r k v with
    | some r' => some (x :: r')
    | none => none
theorem lget_eq {α : Type} : ∀ (l : List α) (k : Nat), lget l k = l[k]?
  | [], _ => by simp [lget]
  | x :: _, 0 => by simp [lget]
  | _ :: r, k + 1 => by simp [lget, lget_eq r k]
theorem lset_eq {α : Type} : ∀ {l : List α} {k : Nat} {v : α} {l' : List α}, lset l k v = some l' → l' = l.set k v ∧ k < l.length
  | [], _, _, _, h => by cases h
  | _ :: _, 0, _, _, h => by simp [lset] at h; subst h; simp
  | x :: r, k + 1, v, l', h => by
    simp only [lset] at h
    split at h
    · rename_i r' hr
      obtain ⟨h1, h2⟩ := lset_eq hr
      simp at h
      subst h
      simp [h1, h2]
    · cases h
theorem lget_mem {α : Type} {l : List α} {k : Nat} {x : α} (h : lget l k = some x) : x ∈ l := by
  rw [lget_eq] at h
  exact List.mem_of_getElem? h
def kindOf (P : Program) (T : TypeId) : Option (Bool × Nat) :=
  match P.underlying T, P.info? T with
  | some d, some i => some (match d with | .struct _ | .array _ _ => true | _ => false, i.size)
  | _, _ => none
theorem kind_agg {P : Program} {T : TypeId} {b : Bool} {k : Nat} (h : kindOf P T = some (b, k)) (w : World) : (isAgg T).run P w = .ok b w := by
  unfold kindOf at h
  split at h
  · rename_i d i hd hi
    simp only [Option.some.injEq, Prod.mk.injEq] at h
    obtain ⟨h1, h2⟩ := h
    unfold isAgg
    rw [Sem.run_bind, run_underlying hd w]
    subst h1
    cases d <;> rfl
  · cases h
theorem kind_size {P : Program} {T : TypeId} {b : Bool} {k : Nat} (h : kindOf P T = some (b, k)) (w : World) : (sizeOf T).run P w = .ok k w := by
  unfold kindOf at h
  split at h
  · rename_i d i hd hi
    simp only [Option.some.injEq, Prod.mk.injEq] at h
    simp [sizeOf, typeInfo, hi, h.2]
  · cases h
def fieldOff (P : Program) (S : TypeId) (f : Nat) : Option Nat :=
  match P.underlying S with
  | some (.struct fields) => match fields[f]? with
    | some fd => match P.info? fd.type with
      | some i => if i.size = 0 then none else some fd.offset
      | none => none
    | none => none
  | _ => none
def elemSize (P : Program) (S : TypeId) : Option (TypeId × Nat) :=
  match P.underlying S with
  | some (.slice e) => match P.info? e with
    | some i => some (e, i.size)
    | none => none
  | _ => none
def arrSize (P : Program) (S : TypeId) : Option (Nat × TypeId × Nat) :=
  match P.underlying S with
  | some (.array n e) => match P.info? e with
    | some i => some (n, e, i.size)
    | none => none
  | _ => none
theorem add_at (b o n : Nat) : (⟨b, o, none⟩ : Addr).add n = ⟨b, o + n, none⟩ := by unfold Addr.add; split <;> simp_all
def Unf (o : Obj) : Prop := ∀ cs E fz, o = .cells cs E fz → fz = (0, 0)
theorem bU (cs : Array Value) (E : TypeId) : Unf (.cells cs E (0, 0)) := fun _ _ _ h => by cases h; rfl
theorem unf_map (es : Array MapEntry) (c : Nat) : Unf (.map es c) := fun _ _ _ h => by cases h
theorem nodup_inj {l : List Nat} (hn : l.Nodup) {j k b : Nat} (hj : l[j]? = some b) (hk : l[k]? = some b) : j = k := by
  induction l generalizing j k with
  | nil => simp at hj
  | cons x r ih =>
    simp only [List.nodup_cons] at hn
    cases j with
    | zero =>
      cases k with
      | zero => rfl
      | succ k =>
        simp at hj hk
        exact (hn.1 (hj ▸ List.mem_of_getElem? hk)).elim
    | succ j =>
      cases k with
      | zero =>
        simp at hj hk
        exact (hn.1 (hk ▸ List.mem_of_getElem? hj)).elim
      | succ k => simp at hj hk; rw [ih hn.2 hj hk]
abbrev Vw := Nat → Option Obj
structure Base extends World where
  V0 : Vw
  V : Vw
structure St (w0 : Base) (w : World) (L : List (Nat × Obj)) : Prop where
  os : w.os = w0.os
  tape : w.tape = w0.tape
  output : w.output = w0.output
  size : w0.heap.size ≤ w.heap.size
  own : ∀ x ∈ L, w.heap[x.1]? = some x.2
  unf : ∀ x ∈ L, Unf x.2
  nodup : (L.map (·.1)).Nodup
  old : ∀ i, i < w0.heap.size → (∀ x ∈ L, x.1 ≠ i) → w.heap[i]? = w0.heap[i]?
  fro : ∀ i, w0.heap.size ≤ i → ∀ cs E fz, w.heap[i]? = some (.cells cs E fz) → fz = (0, 0)
  keep : ∀ b o, w0.V b = some o → w.heap[b]? = some o ∧ ∀ x ∈ L, x.1 ≠ b
  grow0 : ∀ b o, w0.V0 b = some o → w0.V b = some o
  grow : ∀ b o, w0.V b = some o → w0.V0 b = some o ∨ w0.heap.size ≤ b
def Vw.In (V : Vw) (w : World) : Prop := ∀ b o, V b = some o → w.heap[b]? = some o
def Vw.le (V V' : Vw) : Prop := ∀ b o, V b = some o → V' b = some o
theorem Vw.le_refl (V : Vw) : V.le V := fun _ _ h => h
theorem Vw.le_trans {V V' V2 : Vw} (h : V.le V') (k : V'.le V2) : V.le V2 := fun b o hb => k b o (h b o hb)
section
variable {w0 : Base} {w w1 w2 : World} {L M : List (Nat × Obj)} {V V0 V' : Vw}
theorem size_lt {w : World} {b : Nat} {o : Obj} (h : w.heap[b]? = some o) : b < w.heap.size := by
  rcases Nat.lt_or_ge b w.heap.size with h' | h'
  · exact h'
  · simp [Array.getElem?_eq_none h'] at h
theorem St.start (hV : V.In w) : St ⟨w, V, V⟩ w [] := by
  refine ⟨rfl, rfl, rfl, Nat.le_refl _, fun _ h => ?_, fun _ h => ?_, by simp, fun _ _ _ => rfl, fun i hi cs E fz h => ?_, fun b o h => ⟨hV b o h, fun _ h => ?_⟩, fun _ _ h => h, fun _ _ h => .inl h⟩
  · cases h
  · cases h
  · simp [Array.getElem?_eq_none hi] at h
  · cases h
theorem St.start1 {b : Nat} {o : Obj} (hV : V.In w) (hb : w.heap[b]? = some o) (hu : Unf o) (hn : V b = none) : St ⟨w, V, V⟩ w [(b, o)] := by
  refine ⟨rfl, rfl, rfl, Nat.le_refl _, fun x h => ?_, fun x h => ?_, by simp, fun _ _ _ => rfl, fun i hi cs E fz h => ?_, fun c o h => ⟨hV c o h, fun x hx => ?_⟩, fun _ _ h => h, fun _ _ h => .inl h⟩
  · simp at h; subst h; exact hb
  · simp at h; subst h; exact hu
  · simp [Array.getElem?_eq_none hi] at h
  · simp at hx; subst hx; rintro rfl; simp only at h; rw [hn] at h; cases h
theorem St.lt (h : St w0 w L) {x : Nat × Obj} (hx : x ∈ L) : x.1 < w.heap.size := size_lt (h.own x hx)
theorem St.get (h : St w0 w L) {k : Nat} {b : Nat} {o : Obj} (hk : lget L k = some (b, o)) : w.heap[b]? = some o := h.own _ (lget_mem hk)
theorem St.g (h : St w0 w L) (k : Nat) {b : Nat} {o : Obj} (hk : lget L k = some (b, o)) : w.heap[b]? = some o := h.get hk
theorem St.isIn (h : St w0 w L) : w0.V.In w := fun b o hb => (h.keep b o hb).1
theorem St.off (h : St w0 w L) {k : Nat} {b : Nat} {o : Obj} (hk : lget L k = some (b, o)) : w0.V b = none := by
  cases hv : w0.V b with
  | none => rfl
  | some o' => exact ((h.keep b o' hv).2 _ (lget_mem hk) rfl).elim
theorem St.same (h : St w0 w L) (hh : w1.heap = w.heap) (ho : w1.os = w.os) (ht : w1.tape = w.tape) (hp : w1.output = w.output) : St w0 w1 L :=
  ⟨ho.trans h.os, ht.trans h.tape, hp.trans h.output, by rw [hh]; exact h.size, by rw [hh]; exact h.own, h.unf, h.nodup, by rw [hh]; exact h.old, by rw [hh]; exact h.fro, by rw [hh]; exact h.keep, h.grow0, h.grow⟩
theorem St.drew (h : St w0 w L) : St w0 w.drew L := h.same rfl rfl rfl rfl
theorem St.allocObj (h : St w0 w L) (o : Obj) (ho : Unf o) : St w0 (w.alloc o) ((w.heap.size, o) :: L) := by
  refine ⟨h.os, h.tape, h.output, by have := h.size; simp; omega, ?_, ?_, ?_, ?_, ?_, ?_, h.grow0, h.grow⟩
  · intro x hx
    rcases List.mem_cons.1 hx with rfl | hx
    · exact heap_alloc_new w _
    · rw [heap_alloc_old w _ (h.lt hx)]; exact h.own x hx
  · intro x hx
    rcases List.mem_cons.1 hx with rfl | hx
    · exact ho
    · exact h.unf x hx
  · simp only [List.map_cons, List.nodup_cons]
    refine ⟨fun hm => ?_, h.nodup⟩
    obtain ⟨x, hx, he⟩ := List.mem_map.1 hm
    have := h.lt hx
    omega
  · intro i hi hn
    rw [heap_alloc_old w _ (by have := h.size; omega)]
    exact h.old i hi fun x hx => hn x (List.mem_cons_of_mem _ hx)
  · intro i hi cs' E' fz hc
    by_cases hlt : i < w.heap.size
    · rw [heap_alloc_old w _ hlt] at hc; exact h.fro i hi _ _ _ hc
    · by_cases he : i = w.heap.size
      · subst he
        rw [heap_alloc_new w _] at hc
        exact ho _ _ _ (by simpa using hc)
      · have : (w.alloc o).heap.size ≤ i := by simp; omega
        simp [Array.getElem?_eq_none this] at hc
  · intro b o' hv
    obtain ⟨h1, h2⟩ := h.keep b o' hv
    have hlt := size_lt h1
    refine ⟨by rw [heap_alloc_old w _ hlt]; exact h1, fun x hx => ?_⟩
    rcases List.mem_cons.1 hx with rfl | hx
    · simp; omega
    · exact h2 x hx
theorem St.alloc (h : St w0 w L) (cs : Array Value) (E : TypeId) : St w0 (w.alloc (.cells cs E)) ((w.heap.size, .cells cs E) :: L) := h.allocObj _ (bU _ _)
theorem map_set_fst {b : Nat} {o' : Obj} : ∀ (L : List (Nat × Obj)) (k : Nat) (o : Obj), lget L k = some (b, o) → (L.set k (b, o')).map (·.1) = L.map (·.1)
  | [], _, _, h => by cases h
  | x :: r, 0, o, h => by simp [lget] at h; subst h; simp
  | x :: r, k + 1, o, h => by simp [lget] at h; simp [map_set_fst r k o h]
theorem set_in {b k : Nat} {o o' : Obj} (hn : (L.map (·.1)).Nodup) (hk : lget L k = some (b, o)) (hlt : k < L.length) : ∀ x ∈ L.set k (b, o'), x = (b, o') ∨ (x ∈ L ∧ x.1 ≠ b) := by
  intro x hx
  rw [List.mem_iff_getElem?] at hx
  obtain ⟨j, hj⟩ := hx
  by_cases hjk : j = k
  · subst hjk; rw [List.getElem?_set_self hlt] at hj; left; simpa using hj.symm
  · rw [List.getElem?_set_ne (Ne.symm hjk)] at hj
    refine .inr ⟨List.mem_of_getElem? hj, fun he => hjk ?_⟩
    rw [lget_eq] at hk
    have e1 : (L.map (·.1))[j]? = some b := by simp [hj, he]
    have e2 : (L.map (·.1))[k]? = some b := by simp [hk]
    exact nodup_inj hn e1 e2
theorem notin_set {b k i : Nat} {o o' : Obj} (hk : lget L k = some (b, o)) (hn : ∀ x ∈ L.set k (b, o'), x.1 ≠ i) : ∀ x ∈ L, x.1 ≠ i := by
  intro x hx he
  have hm : x.1 ∈ (L.set k (b, o')).map (·.1) := by rw [map_set_fst L k o hk]; exact List.mem_map_of_mem hx
  obtain ⟨y, hy, hye⟩ := List.mem_map.1 hm
  exact hn y hy (hye.trans he)
theorem notin_set' {b k i : Nat} {o o' : Obj} (hk : lget L k = some (b, o)) (hn : ∀ x ∈ L, x.1 ≠ i) : ∀ x ∈ L.set k (b, o'), x.1 ≠ i := by
  intro x hx he
  have hm : x.1 ∈ L.map (·.1) := by rw [← map_set_fst (o' := o') L k o hk]; exact List.mem_map_of_mem hx
  obtain ⟨y, hy, hye⟩ := List.mem_map.1 hm
  exact hn y hy (hye.trans he)
theorem St.put (h : St w0 w L) {k b : Nat} {o o' : Obj} {L' : List (Nat × Obj)} (hk : lget L k = some (b, o)) (hL : lset L k (b, o') = some L') (hfz : Unf o')
    (hos : w1.os = w.os) (ht : w1.tape = w.tape) (hp : w1.output = w.output) (hsz : w1.heap.size = w.heap.size) (hb : w1.heap[b]? = some o') (hoth : ∀ i, i ≠ b → w1.heap[i]? = w.heap[i]?) : St w0 w1 L' := by
  obtain ⟨rfl, hlt⟩ := lset_eq hL
  have hin := set_in (o' := o') h.nodup hk hlt
  have hself : (b, o') ∈ L.set k (b, o') := by rw [List.mem_iff_getElem?]; exact ⟨k, List.getElem?_set_self hlt⟩
  refine ⟨hos.trans h.os, ht.trans h.tape, hp.trans h.output, by rw [hsz]; exact h.size, ?_, fun x hx => ?_, by rw [map_set_fst L k o hk]; exact h.nodup, ?_, ?_, ?_, h.grow0, h.grow⟩
  · intro x hx
    rcases hin x hx with rfl | ⟨hx, hne⟩
    · exact hb
    · rw [hoth _ hne]; exact h.own x hx
  · rcases hin x hx with rfl | ⟨hx, hne⟩
    · exact hfz
    · exact h.unf x hx
  · intro i hi hn
    have hne : i ≠ b := fun he => hn (b, o') hself he.symm
    rw [hoth i hne]
    exact h.old i hi (notin_set hk hn)
  · intro i hi cs E fz hc
    by_cases he : i = b
    · subst he; rw [hb] at hc; simp at hc; exact hfz cs E fz hc
    · rw [hoth i he] at hc; exact h.fro i hi _ _ _ hc
  · intro c oc hv
    obtain ⟨h1, h2⟩ := h.keep c oc hv
    have hne : c ≠ b := fun he => h2 (b, o) (lget_mem hk) he.symm
    exact ⟨by rw [hoth c hne]; exact h1, notin_set' hk h2⟩
theorem St.frame {w0 : World} (h : St ⟨w0, V0, V⟩ w L) (hc : St ⟨w, V, V'⟩ w1 []) : St ⟨w0, V0, V'⟩ w1 L := by
  refine ⟨hc.os.trans h.os, hc.tape.trans h.tape, hc.output.trans h.output, Nat.le_trans h.size hc.size, ?_, h.unf, h.nodup, ?_, ?_, ?_, ?_, ?_⟩
  · intro x hx
    rw [hc.old _ (h.lt hx) (fun _ hh => by cases hh)]
    exact h.own x hx
  · intro i hi hn
    rw [hc.old i (Nat.lt_of_lt_of_le hi h.size) (fun _ hh => by cases hh)]
    exact h.old i hi hn
  · intro i hi cs E fz hcell
    by_cases hlt : i < w.heap.size
    · rw [hc.old i hlt (fun _ hh => by cases hh)] at hcell; exact h.fro i hi _ _ _ hcell
    · exact hc.fro i (by simp only; omega) _ _ _ hcell
  · intro b o hv
    refine ⟨(hc.keep b o hv).1, fun x hx he => ?_⟩
    have := h.lt hx
    rcases hc.grow b o hv with h1 | h1
    · exact (h.keep b o h1).2 x hx he
    · simp only at h1; omega
  · exact fun b o hv => hc.grow0 b o (h.grow0 b o hv)
  · intro b o hv
    rcases hc.grow b o hv with h1 | h1
    · exact h.grow b o h1
    · exact .inr (Nat.le_trans h.size h1)
theorem St.frame1 {w0 : World} (h : St ⟨w0, V0, V⟩ w L) {k b : Nat} {o o' : Obj} {L' : List (Nat × Obj)} (hk : lget L k = some (b, o)) (hL : lset L k (b, o') = some L')
    (hc : St ⟨w, V, V'⟩ w1 [(b, o')]) : St ⟨w0, V0, V'⟩ w1 L' := by
  obtain ⟨rfl, hlt⟩ := lset_eq hL
  have hfz : Unf o' := hc.unf _ (List.mem_cons_self ..)
  have hbL : (b, o) ∈ L := lget_mem hk
  have hin := set_in (o' := o') h.nodup hk hlt
  have hself : (b, o') ∈ L.set k (b, o') := by rw [List.mem_iff_getElem?]; exact ⟨k, List.getElem?_set_self hlt⟩
  have hone : ∀ i, i ≠ b → ∀ x ∈ [(b, o')], x.1 ≠ i := fun i hi y hy => by simp at hy; subst hy; exact fun he => hi he.symm
  refine ⟨hc.os.trans h.os, hc.tape.trans h.tape, hc.output.trans h.output, Nat.le_trans h.size hc.size, ?_, fun x hx => ?_, by rw [map_set_fst L k o hk]; exact h.nodup, ?_, ?_, ?_, ?_, ?_⟩
  · intro x hx
    rcases hin x hx with rfl | ⟨hx, hne⟩
    · exact hc.own _ (List.mem_cons_self ..)
    · rw [hc.old _ (h.lt hx) (hone _ hne)]
      exact h.own x hx
  · rcases hin x hx with rfl | ⟨hx, hne⟩
    · exact hfz
    · exact h.unf x hx
  · intro i hi hn
    have hne : i ≠ b := fun he => hn (b, o') hself he.symm
    rw [hc.old i (Nat.lt_of_lt_of_le hi h.size) (hone _ hne)]
    exact h.old i hi (notin_set hk hn)
  · intro i hi cs E fz hcell
    by_cases hlt2 : i < w.heap.size
    · by_cases he : i = b
      · subst he
        rw [hc.own _ (List.mem_cons_self ..)] at hcell
        simp at hcell
        exact hfz cs E fz hcell
      · rw [hc.old i hlt2 (hone _ he)] at hcell
        exact h.fro i hi _ _ _ hcell
    · exact hc.fro i (by simp only; omega) _ _ _ hcell
  · intro c oc hv
    refine ⟨(hc.keep c oc hv).1, notin_set' hk fun x hx he => ?_⟩
    have := h.lt hx
    rcases hc.grow c oc hv with h1 | h1
    · exact (h.keep c oc h1).2 x hx he
    · simp only at h1; omega
  · exact fun b o hv => hc.grow0 b o (h.grow0 b o hv)
  · intro c oc hv
    rcases hc.grow c oc hv with h1 | h1
    · exact h.grow c oc h1
    · exact .inr (Nat.le_trans h.size h1)
theorem St.add (h : St w0 w L) {b : Nat} {o : Obj} (hb : w.heap[b]? = some o) (hu : Unf o) (hn : ∀ x ∈ L, x.1 ≠ b) (hv : w0.V b = none) : St w0 w ((b, o) :: L) := by
  refine ⟨h.os, h.tape, h.output, h.size, ?_, ?_, ?_, ?_, h.fro, ?_, h.grow0, h.grow⟩
  · intro x hx
    rcases List.mem_cons.1 hx with rfl | hx
    · exact hb
    · exact h.own x hx
  · intro x hx
    rcases List.mem_cons.1 hx with rfl | hx
    · exact hu
    · exact h.unf x hx
  · simp only [List.map_cons, List.nodup_cons]
    refine ⟨fun hm => ?_, h.nodup⟩
    obtain ⟨x, hx, he⟩ := List.mem_map.1 hm
    exact hn x hx he
  · intro i hi hne
    exact h.old i hi fun x hx => hne x (List.mem_cons_of_mem _ hx)
  · intro c oc hc
    obtain ⟨h1, h2⟩ := h.keep c oc hc
    refine ⟨h1, fun x hx => ?_⟩
    rcases List.mem_cons.1 hx with rfl | hx
    · rintro rfl; rw [hv] at hc; cases hc
    · exact h2 x hx
theorem St.drop {b : Nat} {o : Obj} (h : St w0 w ((b, o) :: L)) (hb : w0.heap.size ≤ b) : St w0 w L := by
  refine ⟨h.os, h.tape, h.output, h.size, fun x hx => h.own x (List.mem_cons_of_mem _ hx), fun x hx => h.unf x (List.mem_cons_of_mem _ hx), ?_, ?_, h.fro, fun c oc hc => ⟨(h.keep c oc hc).1, fun x hx => (h.keep c oc hc).2 x (List.mem_cons_of_mem _ hx)⟩, h.grow0, h.grow⟩
  · have := h.nodup; simp only [List.map_cons, List.nodup_cons] at this; exact this.2
  · intro i hi hne
    refine h.old i hi fun x hx => ?_
    rcases List.mem_cons.1 hx with rfl | hx
    · simp; omega
    · exact hne x hx
theorem St.swap {x y : Nat × Obj} (h : St w0 w (x :: y :: L)) : St w0 w (y :: x :: L) := by
  have hm : ∀ z, z ∈ y :: x :: L → z ∈ x :: y :: L := by
    intro z hz
    rcases List.mem_cons.1 hz with rfl | hz
    · simp
    · rcases List.mem_cons.1 hz with rfl | hz
      · simp
      · simp [hz]
  have hm' : ∀ z, z ∈ x :: y :: L → z ∈ y :: x :: L := by
    intro z hz
    rcases List.mem_cons.1 hz with rfl | hz
    · simp
    · rcases List.mem_cons.1 hz with rfl | hz
      · simp
      · simp [hz]
  refine ⟨h.os, h.tape, h.output, h.size, fun z hz => h.own z (hm z hz), fun z hz => h.unf z (hm z hz), ?_, ?_, h.fro, fun c oc hc => ⟨(h.keep c oc hc).1, fun z hz => (h.keep c oc hc).2 z (hm z hz)⟩, h.grow0, h.grow⟩
  · have := h.nodup
    simp only [List.map_cons, List.nodup_cons, List.mem_cons, not_or] at this ⊢
    exact ⟨⟨fun e => this.1.1 e.symm, this.2.1⟩, this.1.2, this.2.2⟩
  · intro i hi hne
    exact h.old i hi fun z hz => hne z (hm' z hz)
theorem St.ro (h : St w0 w L) {i : Nat} (hi : i < w0.heap.size) (hn : ∀ x ∈ L, x.1 ≠ i) : w.heap[i]? = w0.heap[i]? := h.old i hi hn
theorem St.cell (h : St w0 w L) {b : Nat} {o : Obj} (hb : w0.V b = some o) : w.heap[b]? = some o := (h.keep b o hb).1
def vAll (w0 : Base) (w : World) (L : List (Nat × Obj)) : Vw := fun b =>
  match w0.V b with
  | some o => some o
  | none => if w0.heap.size ≤ b ∧ ∀ x ∈ L, x.1 ≠ b then w.heap[b]? else none
theorem vAll_le (w0 : Base) (w : World) (L : List (Nat × Obj)) : w0.V.le (vAll w0 w L) := fun b o h => by simp [vAll, h]
theorem St.all {w0 : World} (h : St ⟨w0, V0, V⟩ w L) : St ⟨w0, V0, vAll ⟨w0, V0, V⟩ w L⟩ w L := by
  refine ⟨h.os, h.tape, h.output, h.size, h.own, h.unf, h.nodup, h.old, h.fro, fun b o hv => ?_, fun b o hv => vAll_le _ _ _ _ _ (h.grow0 b o hv), fun b o hv => ?_⟩
  · cases hV : V b with
    | some o' =>
      simp only [vAll, hV, Option.some.injEq] at hv
      subst hv
      exact h.keep b o' hV
    | none =>
      simp only [vAll, hV] at hv
      split at hv
      · rename_i hc; exact ⟨hv, hc.2⟩
      · cases hv
  · cases hV : V b with
    | some o' =>
      simp only [vAll, hV, Option.some.injEq] at hv
      subst hv
      exact h.grow b o' hV
    | none =>
      simp only [vAll, hV] at hv
      split at hv
      · rename_i hc; exact .inr hc.1
      · cases hv
theorem St.vAll_in {w0 : World} (h : St ⟨w0, V0, V⟩ w L) {b : Nat} {o : Obj} (hb : w.heap[b]? = some o) (h0 : w0.heap.size ≤ b) (hn : ∀ x ∈ L, x.1 ≠ b) : vAll ⟨w0, V0, V⟩ w L b = some o := by
  cases hV : V b with
  | some o' =>
    have := (h.keep b o' hV).1
    rw [hb] at this
    simp [vAll, hV, this]
  | none =>
    simp only [vAll, hV]
    rw [if_pos ⟨h0, hn⟩]
    exact hb
theorem St.give {w0 : World} {b : Nat} {o : Obj} (h : St ⟨w0, V0, V⟩ w ((b, o) :: L)) (hb : w0.heap.size ≤ b) : ∃ V', V.le V' ∧ V' b = some o ∧ St ⟨w0, V0, V'⟩ w L := by
  have h2 := h.drop hb
  refine ⟨_, vAll_le ⟨w0, V0, V⟩ w L, h2.vAll_in (h.own _ (List.mem_cons_self ..)) hb ?_, h2.all⟩
  have := h.nodup
  simp only [List.map_cons, List.nodup_cons] at this
  intro x hx he
  exact this.1 (he ▸ List.mem_map_of_mem hx)
theorem St.view (h : St w0 w L) : w0.V0.le w0.V := h.grow0
end
end Go.Proofs.YtgpfjlfkaoffeaaGreatDoor
